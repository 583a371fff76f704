/-
  FOR 'Rows.LawS6136BShortestSaid': the law's own text: its contract
-/
import Derived.Test.YbulkdwbaBLaw1
namespace Go.Proofs.Ybulkdwba.lawB
open Go.ChangeShapes Go.WideShapes Go.ChangeAt Go.RowKit Go.Deep Go.Maps
open lawC (rowI rowI_cell rowI_frozen rowI_set made_rowI info3)
set_option linter.unusedVariables false
set_option maxRecDepth 100000 in
set_option maxHeartbeats 4000000 in
theorem law_b {x0 x2 x10 x11 x12 x13 x14 x15 x16 x17 x18 x19 x20 x25 x26 x27 x28 x29 x30 x31 x32 x33 x34 x35 x36 x37 x38 x39 x40 x41 x42 x43 x44 x45 x46 x47 x48 x49 x50 x51 x52 x53 x54 x55 x56 x57 x58 x59 x60 x61 x62 x63 x64 x65 x66 x67 x68 x69 x70 x71 x72 x73 x74 x75 x76 x77 x78 x79 x80 x81 x82 x83 x84 x85 x86 x87 x88 x89 x90 x91 x92 x93 x94 x95 x96 x97 x98 x99 x100 x101 x102 x103 x104 x105 x106 x107 x108 x109 x110 x111 x112 x113 x114 x115 x116 x117 x118 x119 x120 x121 x122 x123 x124 x125 x126 x127 x128 x129 x130 x131 x132 x133 x134 x135 x136 x137 x138 x139 x140 x141 x142 x143 x144 x145 x146 x147 x148 x149 x150 x151 x152 x153 x154 x155 x156 x157 x158 x159 x160 x161 x162 x163 x164 x165 x166 x167 x168 x169 x170 x171 x172 x173 x174 x175 x176 x177 x178 x179 x180 x181 x182 x183 x184 x185 x186 x187 x188 x189 x190 x191 x192 x193 x194 x195 x196 x197 x198 x199 x200 x201 x202 x203 x204 x205 x206 x207 x208 x209 x210 x211 x212 x213 x214 x215 x216 x217 x218 x219 x220 x221 x222 x223 x224 x225 x226 x227 x228 x229 x230 x231 x232 x233 x234 x235 x236 x237 x238 x239 x240 x241 x242 x243 x244 x245 x246 x247 x248 x249 x250 x251 x252 x253 x254 x255 x256 x257 x258 x259 x260 x261 x262 x263 x264 x265 x266 x267 x268 x269 x270 x271 x272 x273 x274 x275 x276 x277 x278 x279 x280 x281 x282 x283 x284 x285 x286 x287 x288 x289 x290 x291 x292 x293 x294 x295 x296 x297 x298 x299 x300 x301 x302 x303 x304 x305 x306 x307 x308 x309 x310 x311 x312 x313 x314 x315 x316 x317 x318 x319 x320 x321 x322 x323 : Value} (POST : Ending → World → Prop) (w : World) (HFIN : Hid (∀ wf, Below w.heap.size w wf → POST (.returned (.bool true)) wf)) (w1 : World) (DA n m lca cca lcb ccb bB oB cB : Nat) (sca scb : Option Addr) (za : List Int) (k i3 i4 i5 i6 i7 : Int)
    (hk1 : 1 ≤ k) (hk2 : k ≤ 200001) (hza : za.length = n) (hsa : ∀ z ∈ za, Small z) (hn4 : n ≤ 4096) (hm4 : m ≤ 4096) (hn0 : 0 < n) (hm0 : 0 < m) (j3 : 0 ≤ i3) (j4 : 0 ≤ i4) (j5 : 0 ≤ i5) (j6 : 0 ≤ i6) (j7 : 0 ≤ i7)
    (rA : w1.heap[DA]? = some (rowI za)) (hb1 : Below w.heap.size w w1) (hlca : lca ≤ maxLen) (hlcb : lcb ≤ maxLen) (hca : InB w sca lca) (hcb : InB w scb lcb) (hBlt : bB < w.heap.size) (HCB : Hid (∀ j, j < m → ∃ v, w.cell? ⟨bB, oB + j, none⟩ = some (.int .i8 v) ∧ -128 ≤ v ∧ v ≤ 127)) :
    Code.wp Yba.prog ((Yba.f3.body.bind (fTail 0)).getD .skip) (bodyPost Yba.prog Yba.f3 POST) ⟨List.toArray ((x0) :: (.slice (some ⟨bB, oB, none⟩) m cB) :: (x2) :: (.int .u64 i3) :: (.int .u64 i4) :: (.int .u64 i5) :: (.int .u64 i6) :: (.int .u64 i7) :: (.slice sca lca cca) :: (.slice scb lcb ccb) :: (x10) :: (x11) :: (x12) :: (x13) :: (x14) :: (x15) :: (x16) :: (x17) :: (x18) :: (x19) :: (x20) :: (.int .i64 n) :: (.int .i64 m) :: (.int .i64 k) :: (.slice (some ⟨DA, 0, none⟩) n n) :: (x25) :: (x26) :: (x27) :: (x28) :: (x29) :: (x30) :: (x31) :: (x32) :: (x33) :: (x34) :: (x35) :: (x36) :: (x37) :: (x38) :: (x39) :: (x40) :: (x41) :: (x42) :: (x43) :: (x44) :: (x45) :: (x46) :: (x47) :: (x48) :: (x49) :: (x50) :: (x51) :: (x52) :: (x53) :: (x54) :: (x55) :: (x56) :: (x57) :: (x58) :: (x59) :: (x60) :: (x61) :: (x62) :: (x63) :: (x64) :: (x65) :: (x66) :: (x67) :: (x68) :: (x69) :: (x70) :: (x71) :: (x72) :: (x73) :: (x74) :: (x75) :: (x76) :: (x77) :: (x78) :: (x79) :: (x80) :: (x81) :: (x82) :: (x83) :: (x84) :: (x85) :: (x86) :: (x87) :: (x88) :: (x89) :: (x90) :: (x91) :: (x92) :: (x93) :: (x94) :: (x95) :: (x96) :: (x97) :: (x98) :: (x99) :: (x100) :: (x101) :: (x102) :: (x103) :: (x104) :: (x105) :: (x106) :: (x107) :: (x108) :: (x109) :: (x110) :: (x111) :: (x112) :: (x113) :: (x114) :: (x115) :: (x116) :: (x117) :: (x118) :: (x119) :: (x120) :: (x121) :: (x122) :: (x123) :: (x124) :: (x125) :: (x126) :: (x127) :: (x128) :: (x129) :: (x130) :: (x131) :: (x132) :: (x133) :: (x134) :: (x135) :: (x136) :: (x137) :: (x138) :: (x139) :: (x140) :: (x141) :: (x142) :: (x143) :: (x144) :: (x145) :: (x146) :: (x147) :: (x148) :: (x149) :: (x150) :: (x151) :: (x152) :: (x153) :: (x154) :: (x155) :: (x156) :: (x157) :: (x158) :: (x159) :: (x160) :: (x161) :: (x162) :: (x163) :: (x164) :: (x165) :: (x166) :: (x167) :: (x168) :: (x169) :: (x170) :: (x171) :: (x172) :: (x173) :: (x174) :: (x175) :: (x176) :: (x177) :: (x178) :: (x179) :: (x180) :: (x181) :: (x182) :: (x183) :: (x184) :: (x185) :: (x186) :: (x187) :: (x188) :: (x189) :: (x190) :: (x191) :: (x192) :: (x193) :: (x194) :: (x195) :: (x196) :: (x197) :: (x198) :: (x199) :: (x200) :: (x201) :: (x202) :: (x203) :: (x204) :: (x205) :: (x206) :: (x207) :: (x208) :: (x209) :: (x210) :: (x211) :: (x212) :: (x213) :: (x214) :: (x215) :: (x216) :: (x217) :: (x218) :: (x219) :: (x220) :: (x221) :: (x222) :: (x223) :: (x224) :: (x225) :: (x226) :: (x227) :: (x228) :: (x229) :: (x230) :: (x231) :: (x232) :: (x233) :: (x234) :: (x235) :: (x236) :: (x237) :: (x238) :: (x239) :: (x240) :: (x241) :: (x242) :: (x243) :: (x244) :: (x245) :: (x246) :: (x247) :: (x248) :: (x249) :: (x250) :: (x251) :: (x252) :: (x253) :: (x254) :: (x255) :: (x256) :: (x257) :: (x258) :: (x259) :: (x260) :: (x261) :: (x262) :: (x263) :: (x264) :: (x265) :: (x266) :: (x267) :: (x268) :: (x269) :: (x270) :: (x271) :: (x272) :: (x273) :: (x274) :: (x275) :: (x276) :: (x277) :: (x278) :: (x279) :: (x280) :: (x281) :: (x282) :: (x283) :: (x284) :: (x285) :: (x286) :: (x287) :: (x288) :: (x289) :: (x290) :: (x291) :: (x292) :: (x293) :: (x294) :: (x295) :: (x296) :: (x297) :: (x298) :: (x299) :: (x300) :: (x301) :: (x302) :: (x303) :: (x304) :: (x305) :: (x306) :: (x307) :: (x308) :: (x309) :: (x310) :: (x311) :: (x312) :: (x313) :: (x314) :: (x315) :: (x316) :: (x317) :: (x318) :: (x319) :: (x320) :: (x321) :: (x322) :: (x323) :: []), []⟩ w1 := by
  conv => arg 2; whnf
  have hmk := make_ints m (by omega)
  have HL : Hid (lca ≤ maxLen ∧ lcb ≤ maxLen) := ⟨hlca, hlcb⟩
  have hsz := hb1.size
  have b2 : Below w1.heap.size w1 (w1.alloc (rowI (List.replicate m 0))) := (Below.refl _ _).alloc (Nat.le_refl _) _
  have rA2 := (b2.block DA (lt_of_some rA)).trans rA
  have HR : Hid ((w1.alloc (rowI (List.replicate m 0))).heap[DA]? = some (rowI za) ∧ DA < w1.heap.size) := ⟨rA2, lt_of_some rA⟩
  have HB2 : Hid (Below w1.heap.size w1 (w1.alloc (rowI (List.replicate m 0)))) := b2
  have HC1 : Hid (∀ j, j < m → ∃ v, w1.cell? ⟨bB, oB + j, none⟩ = some (.int .i8 v) ∧ -128 ≤ v ∧ v ≤ 127) := fun j hj => by
    obtain ⟨v, h1, h2⟩ := HCB.out j hj
    exact ⟨v, by rw [hb1.cell (by exact hBlt)]; exact h1, h2⟩
  clear hlca hlcb rA rA2 b2
  go_upto_block 2 with fail
  rename_i KB haB
  refine lpart2 bB oB m cB w1.heap.size k (List.replicate m 0) w1 _ hm4 hk1 hk2 (Nat.lt_of_lt_of_le hBlt hsz) (Nat.le_refl _) HC1 (List.length_replicate ..) (fun z hz => by rw [(List.mem_replicate.1 hz).2]; unfold Small; omega) (by exact heap_alloc_new _ _) (by exact HB2.out) _ _ ?_
  intro u v28 v29 v98 wc hcut
  obtain ⟨zb, hzb, hsb, rB, hbc⟩ := hcut
  exact haB _ _ (law_m1 POST w HFIN wc DA w1.heap.size n m lca cca lcb ccb sca scb za zb i3 i4 i5 i6 i7 hza hzb hsa hsb hn4 hm4 hn0 hm0 j3 j4 j5 j6 j7 ((hbc.block DA HR.out.2).trans ((HB2.out.block DA HR.out.2).symm.trans HR.out.1)) rB (hb1.trans (hbc.mono hsz)) HL.out.1 HL.out.2 hca hcb)


/-- A slice of small integers that came in. -/
def InA (w : World) (sa : Option Addr) (n : Nat) : Prop := 0 < n → ∃ b off, sa = some ⟨b, off, none⟩ ∧ b < w.heap.size ∧ ∀ j, j < n → ∃ v, w.cell? ⟨b, off + j, none⟩ = some (.int .i8 v) ∧ -128 ≤ v ∧ v ≤ 127
set_option maxRecDepth 100000 in
set_option maxHeartbeats 4000000 in
theorem law_any (sa sb sca scb : Option Addr) (n ca m cb lca cca lcb ccb : Nat) (sc i3 i4 i5 i6 i7 : Int) (w : World) (hA : InA w sa n) (hB : InA w sb m) (hca : InB w sca lca) (hcb : InB w scb lcb) (hn : n ≤ maxLen) (hm : m ≤ maxLen) (hlca : lca ≤ maxLen) (hlcb : lcb ≤ maxLen) (s1 : 0 ≤ sc) (s2 : sc < 256) (j3 : 0 ≤ i3) (j4 : 0 ≤ i4) (j5 : 0 ≤ i5) (j6 : 0 ≤ i6) (j7 : 0 ≤ i7) :
    Calls Yba.prog 3 #[.slice sa n ca, .slice sb m cb, .int .u8 sc, .int .u64 i3, .int .u64 i4, .int .u64 i5, .int .u64 i6, .int .u64 i7, .slice sca lca cca, .slice scb lcb ccb] w fun e w' => e = .returned (.bool true) ∧ Below w.heap.size w w' := by
  have HFIN : Hid (∀ wf, Below w.heap.size w wf → ((fun (e : Ending) (w' : World) => e = .returned (.bool true) ∧ Below w.heap.size w w') (.returned (.bool true)) wf)) := fun wf h => ⟨rfl, h⟩
  have HL : Hid (lca ≤ maxLen ∧ lcb ≤ maxLen) := ⟨hlca, hlcb⟩
  have HB0 : Hid (Below w.heap.size w w) := Below.refl _ _
  unfold maxLen at hn hm
  clear hlca hlcb
  by_cases g1 : 4096 < n
  · clear hA hB hca hcb
    go_enter Yba.func3, Yba.ntmps3
    go_wp2_with fail
    go_ret
    exact ⟨rfl, HB0.out⟩
  by_cases g2 : 4096 < m
  · clear hA hB hca hcb
    go_enter Yba.func3, Yba.ntmps3
    go_wp2_with fail
    go_ret
    exact ⟨rfl, HB0.out⟩
  by_cases g3 : n = 0
  · subst g3
    clear hA hB hca hcb
    go_enter Yba.func3, Yba.ntmps3
    go_wp2_with fail
    go_ret
    exact ⟨rfl, HB0.out⟩
  by_cases g4 : m = 0
  · subst g4
    have n1 : ((n : Int) == 0) = false := by rw [beq_eq_false_iff_ne]; omega
    clear hA hB hca hcb
    go_enter Yba.func3, Yba.ntmps3
    go_wp2_with fail
    go_ret
    exact ⟨rfl, HB0.out⟩
  obtain ⟨bA, oA, rfl, hAlt, hAc⟩ := hA (by omega)
  obtain ⟨bB, oB, rfl, hBlt, hBc⟩ := hB (by omega)
  have HCA : Hid (∀ j, j < n → ∃ v, w.cell? ⟨bA, oA + j, none⟩ = some (.int .i8 v) ∧ -128 ≤ v ∧ v ≤ 127) := hAc
  have HCB : Hid (∀ j, j < m → ∃ v, w.cell? ⟨bB, oB + j, none⟩ = some (.int .i8 v) ∧ -128 ≤ v ∧ v ≤ 127) := hBc
  have n1 : ((n : Int) == 0) = false := by rw [beq_eq_false_iff_ne]; omega
  have n2 : ((m : Int) == 0) = false := by rw [beq_eq_false_iff_ne]; omega
  have hmk := make_ints n (by omega)
  obtain ⟨r, r1, r2, r3⟩ := umod sc 3 s1 (by decide)
  have r2' : sc.tmod 3 = (r : Int) := r2
  have r3' : sc % 3 = (r : Int) := r3
  obtain ⟨k, hk⟩ : ∃ k : Int, k = 1 + (r : Int) * 100000 := ⟨_, rfl⟩
  have k1 : 1 + (r : Int) * 100000 = k := hk.symm
  have hk1 : 1 ≤ k := by omega
  have hk2 : k ≤ 200001 := by omega
  clear hA hB hAc hBc hk r2 r3
  have hn4 : n ≤ 4096 := by omega
  have hm4 : m ≤ 4096 := by omega
  go_enter Yba.func3, Yba.ntmps3
  go_upto_block 0 with fail
  rename_i KB haB
  refine lpart0 bA oA n ca w.heap.size k (List.replicate n 0) w _ hn4 hk1 hk2 hAlt (Nat.le_refl _) HCA (List.length_replicate ..) (fun z hz => by rw [(List.mem_replicate.1 hz).2]; unfold Small; omega) (by exact heap_alloc_new _ _) (by exact (Below.refl _ _).alloc (Nat.le_refl _) _) _ _ ?_
  intro u v25 v26 v81 wc hcut
  obtain ⟨za, hza, hsa, rA, hbc⟩ := hcut
  exact haB _ _ (law_b _ w HFIN wc w.heap.size n m lca cca lcb ccb bB oB cb sca scb za k i3 i4 i5 i6 i7 hk1 hk2 hza hsa hn4 hm4 (by omega) (by omega) j3 j4 j5 j6 j7 rA hbc HL.out.1 HL.out.2 hca hcb hBlt HCB)
end Go.Proofs.Ybulkdwba.lawB
