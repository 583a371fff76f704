/-
  FOR 'Rows.LawS6136BShortestSaid': the law's own text: behind compareAlong
-/
import Derived.Test.YbulkdwbaBLawEnd
import Derived.Test.YbulkdwbaBLawChk
import Derived.Test.YbulkdwbaBLawTxt
namespace Go.Proofs.Ybulkdwba.lawB
open Go.ChangeShapes Go.WideShapes Go.ChangeAt Go.RowKit Go.Deep Go.Maps
open lawC (rowI rowI_cell rowI_frozen rowI_set made_rowI info3)
set_option linter.unusedVariables false

def isLastR (n : Nat) : Code → Bool
  | .region k _ _ => k == n
  | .seq _ b => isLastR n b
  | _ => false
/-- What follows region n in a function's text. -/
def fTailR (n : Nat) : Code → Option Code
  | .seq a b => if isLastR n a then some b else match fTailR n a with
    | some c => some c
    | none => fTailR n b
  | _ => none
theorem umod (x : Int) (n : Nat) (hx : 0 ≤ x) (hn : 0 < n) : ∃ r : Nat, r < n ∧ x.tmod (n : Int) = (r : Int) ∧ x % (n : Int) = (r : Int) := by
  have h1 : 0 ≤ x % (n : Int) := Int.emod_nonneg _ (by omega)
  have h2 : x % (n : Int) < n := Int.emod_lt_of_pos _ (by omega)
  refine ⟨(x % (n : Int)).toNat, by omega, ?_, by omega⟩
  rw [Int.tmod_eq_emod_of_nonneg hx]; omega
set_option maxRecDepth 100000 in
set_option maxHeartbeats 4000000 in
theorem law_m3 {x0 x1 x2 x3 x4 x5 x6 x7 x8 x9 x10 x11 x12 x13 x14 x15 x16 x17 x18 x19 x20 x23 x25 x26 x28 x29 x36 x45 x46 x47 x48 x49 x50 x51 x52 x53 x54 x55 x56 x57 x58 x59 x60 x61 x62 x63 x64 x65 x66 x67 x68 x69 x70 x71 x72 x73 x74 x75 x76 x77 x78 x79 x80 x81 x82 x83 x84 x85 x86 x87 x88 x89 x90 x91 x92 x93 x94 x95 x96 x97 x98 x99 x100 x101 x102 x103 x104 x105 x106 x107 x108 x109 x110 x111 x112 x113 x114 x115 x116 x117 x118 x119 x120 x121 x122 x123 x124 x125 x126 x127 x128 x129 x130 x131 x132 x133 x134 x135 x136 x137 x138 x139 x140 x141 x142 x143 x144 x145 x146 x147 x148 x149 x150 x151 x152 x153 x154 x155 x156 x157 x158 x159 x160 x161 x162 x163 x164 x165 x166 x167 x168 x169 x170 x171 x172 x173 x174 x175 x176 x177 x178 x179 x180 x181 x182 x183 x184 x185 x186 x187 x188 x189 x190 x191 x192 x193 x194 x195 x196 x197 x198 x199 x200 x201 x202 x203 x204 x205 x206 x207 x208 x209 x210 x211 x212 x213 x214 x215 x216 x217 x218 x219 x220 x221 x222 x223 x224 x225 x226 x227 x228 x229 x230 x231 x232 x233 x234 x235 x236 x237 x238 x239 x240 x241 x242 x243 x244 x245 x246 x247 x248 x249 x250 x251 x252 x253 x254 x255 x256 x257 x258 x259 x260 x261 x262 x263 x264 x265 x266 x267 x268 x269 x270 x271 x272 x273 x274 x275 x276 x277 x278 x279 x280 x281 x282 x283 x284 x285 x286 x287 x288 x289 x290 x291 x292 x293 x294 x295 x296 x297 x298 x299 x300 x301 x302 x303 x304 x305 x306 x307 x308 x309 x310 x311 x312 x313 x314 x315 x316 x317 x318 x319 x320 x321 x322 x323 : Value} (POST : Ending → World → Prop) (w : World) (HFIN : Hid (∀ wf, Below w.heap.size w wf → POST (.returned (.bool true)) wf)) (w0 w9 : World) (D DA DB CA CB CA0 CB0 DA0 DB0 c1 c2 c3 c4 n m aLo aHi bLo bHi wa hb p : Nat) (za zb : List Int) (v4 v5 v6 v8 : Value) (ca cb ca' cb' : List Bool)
    (hza : za.length = n) (hzb : zb.length = m) (hn4 : n ≤ 4096) (hm4 : m ≤ 4096) (haE : aLo + wa = aHi) (hbE : bLo + hb = bHi) (haH : aHi ≤ n) (hbH : bHi ≤ m) (hp0 : 0 < p) (hpa : p ≤ wa) (hpb : p ≤ hb)
    (al : AlongI w0 D DA DB CA CB n m za zb v4 v5 v6 v8 ca cb aLo bLo wa hb p p ca' cb' w9)
    (rA0 : Rd (fun j => .bool (ca[j]?.getD false)) w0 4 CA0 n) (rB0 : Rd (fun j => .bool (cb[j]?.getD false)) w0 4 CB0 m) (rD0 : Rd (fun j => .int .i64 (za[j]?.getD 0)) w0 3 DA0 n) (rE0 : Rd (fun j => .int .i64 (zb[j]?.getD 0)) w0 3 DB0 m)
    (hne1 : ∀ x, (x = CA0 ∨ x = CB0 ∨ x = DA0 ∨ x = DB0) → x ≠ D ∧ x ≠ CA ∧ x ≠ CB) (hD : w.heap.size ≤ D) (hCA : w.heap.size ≤ CA) (hCB : w.heap.size ≤ CB) (hb0 : Below w.heap.size w w0) :
    Code.wp Yba.prog ((Yba.f3.body.bind (fTailR 35)).getD .skip) (bodyPost Yba.prog Yba.f3 POST) ⟨List.toArray ((x0) :: (x1) :: (x2) :: (x3) :: (x4) :: (x5) :: (x6) :: (x7) :: (x8) :: (x9) :: (x10) :: (x11) :: (x12) :: (x13) :: (x14) :: (x15) :: (x16) :: (x17) :: (x18) :: (x19) :: (x20) :: (.int .i64 n) :: (.int .i64 m) :: (x23) :: (.slice (some ⟨DA, 0, none⟩) n n) :: (x25) :: (x26) :: (.slice (some ⟨DB, 0, none⟩) m m) :: (x28) :: (x29) :: (.int .i64 aLo) :: (.int .i64 aHi) :: (.int .i64 bLo) :: (.int .i64 bHi) :: (.int .i64 wa) :: (.int .i64 hb) :: (x36) :: (.int .i64 p) :: (.slice (some ⟨CA, 0, none⟩) n n) :: (.slice (some ⟨CB, 0, none⟩) m m) :: (.slice (some ⟨CA0, 0, none⟩) n c1) :: (.slice (some ⟨CB0, 0, none⟩) m c2) :: (.slice (some ⟨DA0, 0, none⟩) n c3) :: (.slice (some ⟨DB0, 0, none⟩) m c4) :: (.pointer (some ⟨D, 0, none⟩)) :: (x45) :: (x46) :: (x47) :: (x48) :: (x49) :: (x50) :: (x51) :: (x52) :: (x53) :: (x54) :: (x55) :: (x56) :: (x57) :: (x58) :: (x59) :: (x60) :: (x61) :: (x62) :: (x63) :: (x64) :: (x65) :: (x66) :: (x67) :: (x68) :: (x69) :: (x70) :: (x71) :: (x72) :: (x73) :: (x74) :: (x75) :: (x76) :: (x77) :: (x78) :: (x79) :: (x80) :: (x81) :: (x82) :: (x83) :: (x84) :: (x85) :: (x86) :: (x87) :: (x88) :: (x89) :: (x90) :: (x91) :: (x92) :: (x93) :: (x94) :: (x95) :: (x96) :: (x97) :: (x98) :: (x99) :: (x100) :: (x101) :: (x102) :: (x103) :: (x104) :: (x105) :: (x106) :: (x107) :: (x108) :: (x109) :: (x110) :: (x111) :: (x112) :: (x113) :: (x114) :: (x115) :: (x116) :: (x117) :: (x118) :: (x119) :: (x120) :: (x121) :: (x122) :: (x123) :: (x124) :: (x125) :: (x126) :: (x127) :: (x128) :: (x129) :: (x130) :: (x131) :: (x132) :: (x133) :: (x134) :: (x135) :: (x136) :: (x137) :: (x138) :: (x139) :: (x140) :: (x141) :: (x142) :: (x143) :: (x144) :: (x145) :: (x146) :: (x147) :: (x148) :: (x149) :: (x150) :: (x151) :: (x152) :: (x153) :: (x154) :: (x155) :: (x156) :: (x157) :: (x158) :: (x159) :: (x160) :: (x161) :: (x162) :: (x163) :: (x164) :: (x165) :: (x166) :: (x167) :: (x168) :: (x169) :: (x170) :: (x171) :: (x172) :: (x173) :: (x174) :: (x175) :: (x176) :: (x177) :: (x178) :: (x179) :: (x180) :: (x181) :: (x182) :: (x183) :: (x184) :: (x185) :: (x186) :: (x187) :: (x188) :: (x189) :: (x190) :: (x191) :: (x192) :: (x193) :: (x194) :: (x195) :: (x196) :: (x197) :: (x198) :: (x199) :: (x200) :: (x201) :: (x202) :: (x203) :: (x204) :: (x205) :: (x206) :: (x207) :: (x208) :: (x209) :: (x210) :: (x211) :: (x212) :: (x213) :: (x214) :: (x215) :: (x216) :: (x217) :: (x218) :: (x219) :: (x220) :: (x221) :: (x222) :: (x223) :: (x224) :: (x225) :: (x226) :: (x227) :: (x228) :: (x229) :: (x230) :: (x231) :: (x232) :: (x233) :: (x234) :: (x235) :: (x236) :: (x237) :: (x238) :: (x239) :: (x240) :: (x241) :: (x242) :: (x243) :: (x244) :: (x245) :: (x246) :: (x247) :: (x248) :: (x249) :: (x250) :: (x251) :: (x252) :: (x253) :: (x254) :: (x255) :: (x256) :: (x257) :: (x258) :: (x259) :: (x260) :: (x261) :: (x262) :: (x263) :: (x264) :: (x265) :: (x266) :: (x267) :: (x268) :: (x269) :: (x270) :: (x271) :: (x272) :: (x273) :: (x274) :: (x275) :: (x276) :: (x277) :: (x278) :: (x279) :: (x280) :: (x281) :: (x282) :: (x283) :: (x284) :: (x285) :: (x286) :: (x287) :: (x288) :: (x289) :: (x290) :: (x291) :: (x292) :: (x293) :: (x294) :: (x295) :: (x296) :: (x297) :: (x298) :: (x299) :: (x300) :: (x301) :: (x302) :: (x303) :: (x304) :: (x305) :: (x306) :: (x307) :: (x308) :: (x309) :: (x310) :: (x311) :: (x312) :: (x313) :: (x314) :: (x315) :: (x316) :: (x317) :: (x318) :: (x319) :: (x320) :: (x321) :: (x322) :: (x323) :: []), []⟩ w9 := by
  conv => arg 2; whnf
  have kp := al.dif.kp
  have hz1 := ct_end aLo wa p hp0
  have hz2 := ct_end bLo hb p hp0
  have hO : ∀ {u : Nat → Value} {t : TypeId} {g k : Nat}, (g = CA0 ∨ g = CB0 ∨ g = DA0 ∨ g = DB0) → Rd u w0 t g k → Rd u w9 t g k := fun {u t g k} hg r => r.keep (kp.block g r.lt (by obtain ⟨a1, a2, a3⟩ := hne1 g hg; rintro (h | h | h) <;> contradiction))
  have sA0 := hO (.inl rfl) rA0
  have sB0 := hO (.inr (.inl rfl)) rB0
  have sD0 := hO (.inr (.inr (.inl rfl))) rD0
  have sE0 := hO (.inr (.inr (.inr rfl))) rE0
  have cA : ∀ j, j < n → w9.cell? ⟨DA, j, none⟩ = some (.int .i64 (za[j]?.getD 0)) := fun j hj => rowI_cell al.dif.ra j (by omega)
  have cB : ∀ j, j < m → w9.cell? ⟨DB, j, none⟩ = some (.int .i64 (zb[j]?.getD 0)) := fun j hj => rowI_cell al.dif.rb j (by omega)
  have HE1 : Hid (∀ k, Calls Yba.prog 9 #[.slice (some ⟨DA, 0, none⟩) n n, .slice (some ⟨DA0, 0, none⟩) n c3] (w9.drewN k) fun e w' => e = .returned (.bool true) ∧ ∃ q, w' = (w9.drewN k).drewN q) := fun k => equal_same DA DA0 n n c3 (fun j => za[j]?.getD 0) (w9.drewN k) hn4 cA (fun j hj => sD0.cell hj)
  have HE2 : Hid (∀ k, Calls Yba.prog 9 #[.slice (some ⟨DB, 0, none⟩) m m, .slice (some ⟨DB0, 0, none⟩) m c4] (w9.drewN k) fun e w' => e = .returned (.bool true) ∧ ∃ q, w' = (w9.drewN k).drewN q) := fun k => equal_same DB DB0 m m c4 (fun j => zb[j]?.getD 0) (w9.drewN k) hm4 cB (fun j hj => sE0.cell hj)
  obtain ⟨rv, hbx, hrv⟩ := al.dif.bx
  obtain ⟨_, _, d2, d3, _, _⟩ := boxD_cell hbx
  have lA := al.dif.la
  have lB := al.dif.lb
  have H4a : Hid (∀ k i, i < n → (w9.drewN k).cell? ⟨CA, i, none⟩ = some (.bool (ca'[i]?.getD false))) := fun k i hi => rowV_cell false al.dif.rca i (by omega)
  have H4b : Hid (∀ k i, i < n → (i < aLo ∨ aHi ≤ i) → (w9.drewN k).cell? ⟨CA0, i, none⟩ = some (.bool (ca'[i]?.getD false))) := fun k i hi ho => by
    rw [al.oa i (by omega)]; exact sA0.cell hi
  have H6a : Hid (∀ k i, i < m → (w9.drewN k).cell? ⟨CB, i, none⟩ = some (.bool (cb'[i]?.getD false))) := fun k i hi => rowV_cell false al.dif.rcb i (by omega)
  have H6b : Hid (∀ k i, i < m → (i < bLo ∨ bHi ≤ i) → (w9.drewN k).cell? ⟨CB0, i, none⟩ = some (.bool (cb'[i]?.getD false))) := fun k i hi ho => by
    rw [al.ob i (by omega)]; exact sB0.cell hi
  have HB9 : Hid (Below w.heap.size w w9) := ⟨kp.os.trans hb0.os, kp.tape.trans hb0.tape, kp.output.trans hb0.output, Nat.le_trans hb0.size kp.size, fun k hk => (kp.block k (Nat.lt_of_lt_of_le hk hb0.size) (by omega)).trans (hb0.block k hk)⟩
  have HEND : Hid (∀ k, (w9.drewN k).heap[DA]? = some (rowI za) ∧ (w9.drewN k).heap[DB]? = some (rowI zb) ∧ (w9.drewN k).heap[CA]? = some (rowB ca') ∧ (w9.drewN k).heap[CB]? = some (rowB cb')) := fun k => ⟨al.dif.ra, al.dif.rb, al.dif.rca, al.dif.rcb⟩
  have HDN : Hid (∀ r, r < p → Done (lin za (ct aLo wa p r)) (lin zb (ct bLo hb p r)) (ct aLo wa p (r + 1) - ct aLo wa p r) (ct bLo hb p (r + 1) - ct bLo hb p r) (mk ca' (ct aLo wa p r)) (mk cb' (ct bLo hb p r))) := al.dn
  have tok1 : True := trivial
  clear al kp hO sA0 sB0 sD0 sE0 cA cB hbx hrv rA0 rB0 rD0 rE0 hne1 hz1 hz2
  go_upto_block 4 with (first
    | (go_at_call 9; have _t := tok1; refine (HE1.out 0).mono ?_; rintro e w10 ⟨rfl, q10, rfl⟩; clear tok1)
    | (go_at_call 9; refine (HE2.out _).mono ?_; rintro e w11 ⟨rfl, q11, rfl⟩))
  rename_i KB haB
  refine lpart4 n aLo aHi CA n CA0 c1 (fun i => ca'[i]?.getD false) _ hn4 (by omega) haH (by exact fun i hi => H4a.out 0 i hi) (by exact fun i hi ho => H4b.out 0 i hi ho) _ _ ?_
  intro u v45 wc hcut
  obtain ⟨k4, rfl⟩ := hcut
  clear H4a H4b HE1 HE2 d2 d3
  refine haB _ _ ?_
  clear haB KB
  go_upto_block 6 with fail
  rename_i KB haB
  refine lpart6 m bLo bHi CB m CB0 c2 (fun i => cb'[i]?.getD false) _ hm4 (by omega) hbH (by exact fun i hi => H6a.out 0 i hi) (by exact fun i hi ho => H6b.out 0 i hi ho) _ _ ?_
  intro u2 v46 wc hcut
  obtain ⟨k6, rfl⟩ := hcut
  obtain ⟨x1, x2, x3, x4⟩ := HEND.out 0
  exact haB _ _ (law_end POST _ (by exact fun wf hb => HFIN.out wf ((below_drewN (below_drewN (below_drewN HB9.out (q10 + q11)) k4) k6).trans (hb.mono HB9.out.size))) DA DB CA CB n m aLo bLo wa hb p za zb ca' cb' hza hzb lA lB hn4 hm4 (by omega) (by omega) hp0 hpa hpb (by exact x1) (by exact x2) (by exact x3) (by exact x4) HDN)

end Go.Proofs.Ybulkdwba.lawB
