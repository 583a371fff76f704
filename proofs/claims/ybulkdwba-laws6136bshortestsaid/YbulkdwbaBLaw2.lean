/-
  FOR 'Rows.LawS6136BShortestSaid': the law's own text: up to compareAlong
-/
import Derived.Test.YbulkdwbaBLaw3
namespace Go.Proofs.Ybulkdwba.lawB
open Go.ChangeShapes Go.WideShapes Go.ChangeAt Go.RowKit Go.Deep Go.Maps
open lawC (rowI rowI_cell rowI_frozen rowI_set made_rowI info3)
set_option linter.unusedVariables false
set_option maxRecDepth 100000 in
set_option maxHeartbeats 4000000 in
theorem law_m2 {x0 x1 x2 x3 x4 x5 x6 x7 x10 x11 x12 x13 x14 x15 x16 x17 x18 x19 x20 x23 x25 x26 x28 x29 x36 x38 x39 x40 x41 x42 x43 x44 x45 x46 x47 x48 x49 x50 x51 x52 x53 x54 x55 x56 x57 x58 x59 x60 x61 x62 x63 x64 x65 x66 x67 x68 x69 x70 x71 x72 x73 x74 x75 x76 x77 x78 x79 x80 x81 x82 x83 x84 x85 x86 x87 x88 x89 x90 x91 x92 x93 x94 x95 x96 x97 x98 x99 x100 x101 x102 x103 x104 x105 x106 x107 x108 x109 x110 x111 x112 x113 x114 x115 x116 x117 x118 x119 x120 x121 x122 x123 x124 x125 x126 x127 x128 x129 x130 x131 x132 x133 x134 x135 x136 x137 x138 x139 x140 x141 x142 x143 x144 x145 x146 x147 x148 x149 x150 x151 x152 x153 x154 x155 x156 x157 x158 x159 x160 x161 x162 x163 x164 x165 x166 x167 x168 x169 x170 x171 x172 x173 x174 x175 x176 x177 x178 x179 x180 x181 x182 x183 x184 x185 x186 x187 x188 x189 x190 x191 x192 x193 x194 x195 x196 x197 x198 x199 x200 x201 x202 x203 x204 x205 x206 x207 x208 x209 x210 x211 x212 x213 x214 x215 x216 x217 x218 x219 x220 x221 x222 x223 x224 x225 x226 x227 x228 x229 x230 x231 x232 x233 x234 x235 x236 x237 x238 x239 x240 x241 x242 x243 x244 x245 x246 x247 x248 x249 x250 x251 x252 x253 x254 x255 x256 x257 x258 x259 x260 x261 x262 x263 x264 x265 x266 x267 x268 x269 x270 x271 x272 x273 x274 x275 x276 x277 x278 x279 x280 x281 x282 x283 x284 x285 x286 x287 x288 x289 x290 x291 x292 x293 x294 x295 x296 x297 x298 x299 x300 x301 x302 x303 x304 x305 x306 x307 x308 x309 x310 x311 x312 x313 x314 x315 x316 x317 x318 x319 x320 x321 x322 x323 : Value} (POST : Ending → World → Prop) (w : World) (HFIN : Hid (∀ wf, Below w.heap.size w wf → POST (.returned (.bool true)) wf)) (w2 : World) (DA DB n m aLo aHi bLo bHi wa hb p lca cca lcb ccb : Nat) (sca scb : Option Addr) (za zb : List Int)
    (hza : za.length = n) (hzb : zb.length = m) (hsa : ∀ z ∈ za, Small z) (hsb : ∀ z ∈ zb, Small z) (hn4 : n ≤ 4096) (hm4 : m ≤ 4096) (haE : aLo + wa = aHi) (hbE : bLo + hb = bHi) (haH : aHi ≤ n) (hbH : bHi ≤ m) (hp0 : 0 < p) (hpa : p ≤ wa) (hpb : p ≤ hb)
    (rA : w2.heap[DA]? = some (rowI za)) (rB : w2.heap[DB]? = some (rowI zb)) (hb2 : Below w.heap.size w w2) (hlca : lca ≤ maxLen) (hlcb : lcb ≤ maxLen) (hca : InB w sca lca) (hcb : InB w scb lcb) :
    Code.wp Yba.prog ((Yba.f3.body.bind (fTailR 27)).getD .skip) (bodyPost Yba.prog Yba.f3 POST) ⟨List.toArray ((x0) :: (x1) :: (x2) :: (x3) :: (x4) :: (x5) :: (x6) :: (x7) :: (.slice sca lca cca) :: (.slice scb lcb ccb) :: (x10) :: (x11) :: (x12) :: (x13) :: (x14) :: (x15) :: (x16) :: (x17) :: (x18) :: (x19) :: (x20) :: (.int .i64 n) :: (.int .i64 m) :: (x23) :: (.slice (some ⟨DA, 0, none⟩) n n) :: (x25) :: (x26) :: (.slice (some ⟨DB, 0, none⟩) m m) :: (x28) :: (x29) :: (.int .i64 aLo) :: (.int .i64 aHi) :: (.int .i64 bLo) :: (.int .i64 bHi) :: (.int .i64 wa) :: (.int .i64 hb) :: (x36) :: (.int .i64 p) :: (x38) :: (x39) :: (x40) :: (x41) :: (x42) :: (x43) :: (x44) :: (x45) :: (x46) :: (x47) :: (x48) :: (x49) :: (x50) :: (x51) :: (x52) :: (x53) :: (x54) :: (x55) :: (x56) :: (x57) :: (x58) :: (x59) :: (x60) :: (x61) :: (x62) :: (x63) :: (x64) :: (x65) :: (x66) :: (x67) :: (x68) :: (x69) :: (x70) :: (x71) :: (x72) :: (x73) :: (x74) :: (x75) :: (x76) :: (x77) :: (x78) :: (x79) :: (x80) :: (x81) :: (x82) :: (x83) :: (x84) :: (x85) :: (x86) :: (x87) :: (x88) :: (x89) :: (x90) :: (x91) :: (x92) :: (x93) :: (x94) :: (x95) :: (x96) :: (x97) :: (x98) :: (x99) :: (x100) :: (x101) :: (x102) :: (x103) :: (x104) :: (x105) :: (x106) :: (x107) :: (x108) :: (x109) :: (x110) :: (x111) :: (x112) :: (x113) :: (x114) :: (x115) :: (x116) :: (x117) :: (x118) :: (x119) :: (x120) :: (x121) :: (x122) :: (x123) :: (x124) :: (x125) :: (x126) :: (x127) :: (x128) :: (x129) :: (x130) :: (x131) :: (x132) :: (x133) :: (x134) :: (x135) :: (x136) :: (x137) :: (x138) :: (x139) :: (x140) :: (x141) :: (x142) :: (x143) :: (x144) :: (x145) :: (x146) :: (x147) :: (x148) :: (x149) :: (x150) :: (x151) :: (x152) :: (x153) :: (x154) :: (x155) :: (x156) :: (x157) :: (x158) :: (x159) :: (x160) :: (x161) :: (x162) :: (x163) :: (x164) :: (x165) :: (x166) :: (x167) :: (x168) :: (x169) :: (x170) :: (x171) :: (x172) :: (x173) :: (x174) :: (x175) :: (x176) :: (x177) :: (x178) :: (x179) :: (x180) :: (x181) :: (x182) :: (x183) :: (x184) :: (x185) :: (x186) :: (x187) :: (x188) :: (x189) :: (x190) :: (x191) :: (x192) :: (x193) :: (x194) :: (x195) :: (x196) :: (x197) :: (x198) :: (x199) :: (x200) :: (x201) :: (x202) :: (x203) :: (x204) :: (x205) :: (x206) :: (x207) :: (x208) :: (x209) :: (x210) :: (x211) :: (x212) :: (x213) :: (x214) :: (x215) :: (x216) :: (x217) :: (x218) :: (x219) :: (x220) :: (x221) :: (x222) :: (x223) :: (x224) :: (x225) :: (x226) :: (x227) :: (x228) :: (x229) :: (x230) :: (x231) :: (x232) :: (x233) :: (x234) :: (x235) :: (x236) :: (x237) :: (x238) :: (x239) :: (x240) :: (x241) :: (x242) :: (x243) :: (x244) :: (x245) :: (x246) :: (x247) :: (x248) :: (x249) :: (x250) :: (x251) :: (x252) :: (x253) :: (x254) :: (x255) :: (x256) :: (x257) :: (x258) :: (x259) :: (x260) :: (x261) :: (x262) :: (x263) :: (x264) :: (x265) :: (x266) :: (x267) :: (x268) :: (x269) :: (x270) :: (x271) :: (x272) :: (x273) :: (x274) :: (x275) :: (x276) :: (x277) :: (x278) :: (x279) :: (x280) :: (x281) :: (x282) :: (x283) :: (x284) :: (x285) :: (x286) :: (x287) :: (x288) :: (x289) :: (x290) :: (x291) :: (x292) :: (x293) :: (x294) :: (x295) :: (x296) :: (x297) :: (x298) :: (x299) :: (x300) :: (x301) :: (x302) :: (x303) :: (x304) :: (x305) :: (x306) :: (x307) :: (x308) :: (x309) :: (x310) :: (x311) :: (x312) :: (x313) :: (x314) :: (x315) :: (x316) :: (x317) :: (x318) :: (x319) :: (x320) :: (x321) :: (x322) :: (x323) :: []), []⟩ w2 := by
  conv => arg 2; whnf
  have hsz := hb2.size
  have hin : ∀ {h : World} {sa : Option Addr} {k : Nat}, Below w.heap.size w h → InB w sa k → InB h sa k := fun {h sa k} hb hi hk => by
    obtain ⟨b, off, e1, e2, e3⟩ := hi hk
    refine ⟨b, off, e1, Nat.lt_of_lt_of_le e2 hb.size, fun j hj => ?_⟩
    obtain ⟨v, hv⟩ := e3 j hj
    exact ⟨v, by rw [hb.cell (by exact e2)]; exact hv⟩
  have HI1 : Hid (∀ k, Calls Yba.prog 5 #[.int .i64 n, .int .i64 aLo, .int .i64 aHi, .slice sca lca cca] (w2.drewN k) fun e w' => e = .returned (.slice (some ⟨w2.heap.size, 0, none⟩) n n) ∧ ∃ bs : List Bool, bs.length = n ∧ (∀ t, aLo ≤ t → t < aHi → bs[t]?.getD false = false) ∧ w'.heap[w2.heap.size]? = some (rowB bs) ∧ Below w2.heap.size (w2.drewN k) w') := fun k => init_any n aLo aHi lca cca sca (w2.drewN k) hn4 haH (by omega) hlca (hin (below_drewN hb2 k) hca)
  have HI2 : Hid (∀ (ww : World), Below w.heap.size w ww → Calls Yba.prog 5 #[.int .i64 m, .int .i64 bLo, .int .i64 bHi, .slice scb lcb ccb] ww fun e w' => e = .returned (.slice (some ⟨ww.heap.size, 0, none⟩) m m) ∧ ∃ bs : List Bool, bs.length = m ∧ (∀ t, bLo ≤ t → t < bHi → bs[t]?.getD false = false) ∧ w'.heap[ww.heap.size]? = some (rowB bs) ∧ Below ww.heap.size ww w') := fun ww hw => init_any m bLo bHi lcb ccb scb ww hm4 hbH (by omega) hlcb (hin hw hcb)
  unfold maxLen at hlca hlcb
  clear hin hca hcb
  go_upto_region 29 with (go_at_call 5; refine (HI1.out 0).mono ?_; rintro e w3 ⟨rfl, ca, lA, fA, hA3, b3⟩)
  obtain ⟨CA, hCA⟩ : ∃ CA, CA = w2.heap.size := ⟨_, rfl⟩
  rw [← hCA] at hA3 ⊢
  have b3' : Below w2.heap.size w2 w3 := b3
  have B3 : Below w.heap.size w w3 := hb2.trans (b3'.mono hsz)
  have rA3 := (b3'.block DA (lt_of_some rA)).trans rA
  have rB3 := (b3'.block DB (lt_of_some rB)).trans rB
  have hCA' : w.heap.size ≤ CA := by omega
  have hAlt := lt_of_some hA3
  clear HI1 b3 rA rB hCA
  go_upto_region 30 with (go_at_call 5; refine (HI2.out w3 B3).mono ?_; rintro e w4 ⟨rfl, cb, lB, fB, hB4, b4⟩)
  obtain ⟨CB, hCB⟩ : ∃ CB, CB = w3.heap.size := ⟨_, rfl⟩
  rw [← hCB] at hB4 ⊢
  have B4 : Below w.heap.size w w4 := B3.trans (b4.mono B3.size)
  have hA4 := (b4.block CA hAlt).trans hA3
  have rA4 := (b4.block DA (lt_of_some rA3)).trans rA3
  have rB4 := (b4.block DB (lt_of_some rB3)).trans rB3
  have hCB' : w.heap.size ≤ CB := by have := B3.size; omega
  have hCC : CA ≠ CB := by omega
  have HC1 : Hid (∀ k, Calls Yba.prog 6 #[.slice (some ⟨CA, 0, none⟩) n n] (w4.drewN k) fun e w' => ∃ g cap', e = .returned (.slice (some ⟨g, 0, none⟩) n cap') ∧ w4.heap.size ≤ g ∧ Rd (fun j => Value.bool (ca[j]?.getD false)) w' 4 g n ∧ Below w4.heap.size (w4.drewN k) w') := fun k => cloneB CA n n ca (w4.drewN k) lA hn4 hA4
  clear HI2 rA3 rB3 hA3 hCB
  go_upto_region 31 with (go_at_call 6; refine (HC1.out 0).mono ?_; rintro e w5 ⟨CA0, c1, rfl, gA0, rA0, b5⟩)
  have b5' : Below w4.heap.size w4 w5 := b5
  have hB5 := (b5'.block CB (lt_of_some hB4)).trans hB4
  have HC2 : Hid (∀ k, Calls Yba.prog 6 #[.slice (some ⟨CB, 0, none⟩) m m] (w5.drewN k) fun e w' => ∃ g cap', e = .returned (.slice (some ⟨g, 0, none⟩) m cap') ∧ w5.heap.size ≤ g ∧ Rd (fun j => Value.bool (cb[j]?.getD false)) w' 4 g m ∧ Below w5.heap.size (w5.drewN k) w') := fun k => cloneB CB m m cb (w5.drewN k) lB hm4 hB5
  clear HC1 b5
  go_upto_region 32 with (go_at_call 6; refine (HC2.out 0).mono ?_; rintro e w6 ⟨CB0, c2, rfl, gB0, rB0, b6⟩)
  have b6' : Below w5.heap.size w5 w6 := b6
  have b46 : Below w4.heap.size w4 w6 := b5'.trans (b6'.mono b5'.size)
  have rA6 := (b46.block DA (lt_of_some rA4)).trans rA4
  have HC3 : Hid (∀ k, Calls Yba.prog 7 #[.slice (some ⟨DA, 0, none⟩) n n] (w6.drewN k) fun e w' => ∃ g cap', e = .returned (.slice (some ⟨g, 0, none⟩) n cap') ∧ w6.heap.size ≤ g ∧ Rd (fun j => Value.int .i64 (za[j]?.getD 0)) w' 3 g n ∧ Below w6.heap.size (w6.drewN k) w') := fun k => cloneI DA n n za (w6.drewN k) hza hn4 rA6
  clear HC2 b6
  go_upto_region 33 with (go_at_call 7; refine (HC3.out 0).mono ?_; rintro e w7 ⟨DA0, c3, rfl, gD0, rD0, b7⟩)
  have b7' : Below w6.heap.size w6 w7 := b7
  have b47 : Below w4.heap.size w4 w7 := b46.trans (b7'.mono b46.size)
  have rB7 := (b47.block DB (lt_of_some rB4)).trans rB4
  have HC4 : Hid (∀ k, Calls Yba.prog 7 #[.slice (some ⟨DB, 0, none⟩) m m] (w7.drewN k) fun e w' => ∃ g cap', e = .returned (.slice (some ⟨g, 0, none⟩) m cap') ∧ w7.heap.size ≤ g ∧ Rd (fun j => Value.int .i64 (zb[j]?.getD 0)) w' 3 g m ∧ Below w7.heap.size (w7.drewN k) w') := fun k => cloneI DB m m zb (w7.drewN k) hzb hm4 rB7
  clear HC3 b7
  go_upto_region 34 with (go_at_call 7; refine (HC4.out 0).mono ?_; rintro e w8 ⟨DB0, c4, rfl, gE0, rE0, b8⟩)
  have b8' : Below w7.heap.size w7 w8 := b8
  have b48 : Below w4.heap.size w4 w8 := b47.trans (b8'.mono b47.size)
  clear HC4 b8
  go_upto_region 35 with fail
  rename_i KB haB
  obtain ⟨w0, hw0⟩ : ∃ w0, w0 = w8.alloc (boxD (sl DA n) (sl DB m) (sl CA n) (sl CB m) (.slice none 0 0) (.slice none 0 0) (.slice none 0 0) (.int .i64 0) (.bool false)) := ⟨_, rfl⟩
  obtain ⟨D, hD⟩ : ∃ D, D = w8.heap.size := ⟨_, rfl⟩
  have hbx : w0.heap[D]? = some (boxD (sl DA n) (sl DB m) (sl CA n) (sl CB m) (.slice none 0 0) (.slice none 0 0) (.slice none 0 0) (.int .i64 0) (.bool false)) := by rw [hw0, hD]; exact heap_alloc_new _ _
  have b9 : Below w8.heap.size w8 w0 := by rw [hw0]; exact (Below.refl _ _).alloc (Nat.le_refl _) _
  have hs0 : w0.heap.size = w8.heap.size + 1 := by rw [hw0]; simp
  unfold boxD sl at hw0
  rw [← hw0, ← hD]
  have b40 : Below w4.heap.size w4 w0 := b48.trans (b9.mono b48.size)
  have b50 : Below w5.heap.size w5 w0 := (b6'.trans (b7'.mono b6'.size)).trans ((b8'.trans (b9.mono b8'.size)).mono (Nat.le_trans b6'.size b7'.size))
  have b60 : Below w6.heap.size w6 w0 := b7'.trans ((b8'.trans (b9.mono b8'.size)).mono b7'.size)
  have b70 : Below w7.heap.size w7 w0 := b8'.trans (b9.mono b8'.size)
  have b20 : Below w.heap.size w w0 := B4.trans (b40.mono B4.size)
  have z4 := lt_of_some hA4
  have z5 := lt_of_some hB4
  have z6 := b5'.size
  have z7 := b6'.size
  have z8 := b7'.size
  have z9 := b8'.size
  have y1 := rA0.lt
  have y2 := rB0.lt
  have y3 := rD0.lt
  have y4 := rE0.lt
  have DF : Dif w0 D DA DB CA CB n m za zb (.slice none 0 0) (.slice none 0 0) (.int .i64 0) (.bool false) ca cb w0 := ⟨⟨_, hbx, .inl rfl⟩, (b40.block DA (lt_of_some rA4)).trans rA4, (b40.block DB (lt_of_some rB4)).trans rB4, (b40.block CA z4).trans hA4, (b40.block CB z5).trans hB4, lA, lB, Keeps.refl _ _⟩
  have HAL : Hid (∀ k, Calls Yba.prog 8 #[.pointer (some ⟨D, 0, none⟩), .int .i64 aLo, .int .i64 aHi, .int .i64 bLo, .int .i64 bHi, .int .i64 p] (w0.drewN k) fun e w' => e = .returned (.tuple #[]) ∧ ∃ ca' cb', AlongI w0 D DA DB CA CB n m za zb (.slice none 0 0) (.slice none 0 0) (.int .i64 0) (.bool false) ca cb aLo bLo wa hb p p ca' cb' w') := fun k => by
    have h := along_any w0 D DA DB CA CB n m za zb (.slice none 0 0) (.slice none 0 0) (.int .i64 0) (.bool false) ca cb aLo aHi bLo bHi p (w0.drewN k) hza hzb hn4 hm4 hsa hsb (lt_of_some hbx) (lt_of_some DF.ra) (lt_of_some DF.rb) (lt_of_some DF.rca) (lt_of_some DF.rcb) hCC (by omega) haH (by omega) hbH hp0 (by omega) (by omega) (DF.drewN k) fA fB
    rw [show aHi - aLo = wa by omega, show bHi - bLo = hb by omega] at h
    exact h
  have R1 : Rd (fun j => Value.bool (ca[j]?.getD false)) w0 4 CA0 n := rA0.keep (b50.block CA0 y1)
  have R2 : Rd (fun j => Value.bool (cb[j]?.getD false)) w0 4 CB0 m := rB0.keep (b60.block CB0 y2)
  have R3 : Rd (fun j => Value.int .i64 (za[j]?.getD 0)) w0 3 DA0 n := rD0.keep (b70.block DA0 y3)
  have R4 : Rd (fun j => Value.int .i64 (zb[j]?.getD 0)) w0 3 DB0 m := rE0.keep (b9.block DB0 y4)
  have hne1 : ∀ x, (x = CA0 ∨ x = CB0 ∨ x = DA0 ∨ x = DB0) → x ≠ D ∧ x ≠ CA ∧ x ≠ CB := fun x hx => by omega
  have hDw : w.heap.size ≤ D := by have := B4.size; omega
  clear hw0 hD hs0 b9 b40 b50 b60 b70 b46 b47 b48 b5' b6' b7' b8' b4 b3' rA0 rB0 rD0 rE0 hbx DF fA fB hA4 hB4 hB5 rA4 rB4 rA6 rB7 z4 z5 z6 z7 z8 z9 y1 y2 y3 y4
  go_cut [44] (fun v44 wc => v44 = .pointer (some ⟨D, 0, none⟩) ∧ ∃ ca' cb', AlongI w0 D DA DB CA CB n m za zb (.slice none 0 0) (.slice none 0 0) (.int .i64 0) (.bool false) ca cb aLo bLo wa hb p p ca' cb' wc)
  case first =>
    go_wp2_with (go_at_call 8; refine (HAL.out 0).mono ?_; rintro e w9 ⟨rfl, ca1, cb1, hal⟩)
    go_meet
    exact ⟨rfl, ca1, cb1, hal⟩
  case rest =>
    obtain ⟨rfl, ca1, cb1, hal⟩ := hcut
    exact haB _ _ (law_m3 POST w HFIN w0 wc D DA DB CA CB CA0 CB0 DA0 DB0 c1 c2 c3 c4 n m aLo aHi bLo bHi wa hb p za zb (.slice none 0 0) (.slice none 0 0) (.int .i64 0) (.bool false) ca cb ca1 cb1 hza hzb hn4 hm4 haE hbE haH hbH hp0 hpa hpb hal R1 R2 R3 R4 hne1 hDw hCA' hCB' b20)

end Go.Proofs.Ybulkdwba.lawB
