/-
  FOR 'Rows.LawS6136BShortestSaid': the law's own text: the bounds
-/
import Derived.Test.YbulkdwbaBLaw2
namespace Go.Proofs.Ybulkdwba.lawB
open Go.ChangeShapes Go.WideShapes Go.ChangeAt Go.RowKit Go.Deep Go.Maps
open lawC (rowI rowI_cell rowI_frozen rowI_set made_rowI info3)
set_option linter.unusedVariables false
set_option maxRecDepth 100000 in
set_option maxHeartbeats 4000000 in
theorem law_m1 {x0 x1 x2 x10 x11 x12 x13 x14 x15 x16 x17 x18 x19 x20 x23 x25 x26 x28 x29 x30 x31 x32 x33 x34 x35 x36 x37 x38 x39 x40 x41 x42 x43 x44 x45 x46 x47 x48 x49 x50 x51 x52 x53 x54 x55 x56 x57 x58 x59 x60 x61 x62 x63 x64 x65 x66 x67 x68 x69 x70 x71 x72 x73 x74 x75 x76 x77 x78 x79 x80 x81 x82 x83 x84 x85 x86 x87 x88 x89 x90 x91 x92 x93 x94 x95 x96 x97 x98 x99 x100 x101 x102 x103 x104 x105 x106 x107 x108 x109 x110 x111 x112 x113 x114 x115 x116 x117 x118 x119 x120 x121 x122 x123 x124 x125 x126 x127 x128 x129 x130 x131 x132 x133 x134 x135 x136 x137 x138 x139 x140 x141 x142 x143 x144 x145 x146 x147 x148 x149 x150 x151 x152 x153 x154 x155 x156 x157 x158 x159 x160 x161 x162 x163 x164 x165 x166 x167 x168 x169 x170 x171 x172 x173 x174 x175 x176 x177 x178 x179 x180 x181 x182 x183 x184 x185 x186 x187 x188 x189 x190 x191 x192 x193 x194 x195 x196 x197 x198 x199 x200 x201 x202 x203 x204 x205 x206 x207 x208 x209 x210 x211 x212 x213 x214 x215 x216 x217 x218 x219 x220 x221 x222 x223 x224 x225 x226 x227 x228 x229 x230 x231 x232 x233 x234 x235 x236 x237 x238 x239 x240 x241 x242 x243 x244 x245 x246 x247 x248 x249 x250 x251 x252 x253 x254 x255 x256 x257 x258 x259 x260 x261 x262 x263 x264 x265 x266 x267 x268 x269 x270 x271 x272 x273 x274 x275 x276 x277 x278 x279 x280 x281 x282 x283 x284 x285 x286 x287 x288 x289 x290 x291 x292 x293 x294 x295 x296 x297 x298 x299 x300 x301 x302 x303 x304 x305 x306 x307 x308 x309 x310 x311 x312 x313 x314 x315 x316 x317 x318 x319 x320 x321 x322 x323 : Value} (POST : Ending → World → Prop) (w : World) (HFIN : Hid (∀ wf, Below w.heap.size w wf → POST (.returned (.bool true)) wf)) (w2 : World) (DA DB n m lca cca lcb ccb : Nat) (sca scb : Option Addr) (za zb : List Int) (i3 i4 i5 i6 i7 : Int)
    (hza : za.length = n) (hzb : zb.length = m) (hsa : ∀ z ∈ za, Small z) (hsb : ∀ z ∈ zb, Small z) (hn4 : n ≤ 4096) (hm4 : m ≤ 4096) (hn0 : 0 < n) (hm0 : 0 < m) (j3 : 0 ≤ i3) (j4 : 0 ≤ i4) (j5 : 0 ≤ i5) (j6 : 0 ≤ i6) (j7 : 0 ≤ i7)
    (rA : w2.heap[DA]? = some (rowI za)) (rB : w2.heap[DB]? = some (rowI zb)) (hb2 : Below w.heap.size w w2) (hlca : lca ≤ maxLen) (hlcb : lcb ≤ maxLen) (hca : InB w sca lca) (hcb : InB w scb lcb) :
    Code.wp Yba.prog ((Yba.f3.body.bind (fTail 2)).getD .skip) (bodyPost Yba.prog Yba.f3 POST) ⟨List.toArray ((x0) :: (x1) :: (x2) :: (.int .u64 i3) :: (.int .u64 i4) :: (.int .u64 i5) :: (.int .u64 i6) :: (.int .u64 i7) :: (.slice sca lca cca) :: (.slice scb lcb ccb) :: (x10) :: (x11) :: (x12) :: (x13) :: (x14) :: (x15) :: (x16) :: (x17) :: (x18) :: (x19) :: (x20) :: (.int .i64 n) :: (.int .i64 m) :: (x23) :: (.slice (some ⟨DA, 0, none⟩) n n) :: (x25) :: (x26) :: (.slice (some ⟨DB, 0, none⟩) m m) :: (x28) :: (x29) :: (x30) :: (x31) :: (x32) :: (x33) :: (x34) :: (x35) :: (x36) :: (x37) :: (x38) :: (x39) :: (x40) :: (x41) :: (x42) :: (x43) :: (x44) :: (x45) :: (x46) :: (x47) :: (x48) :: (x49) :: (x50) :: (x51) :: (x52) :: (x53) :: (x54) :: (x55) :: (x56) :: (x57) :: (x58) :: (x59) :: (x60) :: (x61) :: (x62) :: (x63) :: (x64) :: (x65) :: (x66) :: (x67) :: (x68) :: (x69) :: (x70) :: (x71) :: (x72) :: (x73) :: (x74) :: (x75) :: (x76) :: (x77) :: (x78) :: (x79) :: (x80) :: (x81) :: (x82) :: (x83) :: (x84) :: (x85) :: (x86) :: (x87) :: (x88) :: (x89) :: (x90) :: (x91) :: (x92) :: (x93) :: (x94) :: (x95) :: (x96) :: (x97) :: (x98) :: (x99) :: (x100) :: (x101) :: (x102) :: (x103) :: (x104) :: (x105) :: (x106) :: (x107) :: (x108) :: (x109) :: (x110) :: (x111) :: (x112) :: (x113) :: (x114) :: (x115) :: (x116) :: (x117) :: (x118) :: (x119) :: (x120) :: (x121) :: (x122) :: (x123) :: (x124) :: (x125) :: (x126) :: (x127) :: (x128) :: (x129) :: (x130) :: (x131) :: (x132) :: (x133) :: (x134) :: (x135) :: (x136) :: (x137) :: (x138) :: (x139) :: (x140) :: (x141) :: (x142) :: (x143) :: (x144) :: (x145) :: (x146) :: (x147) :: (x148) :: (x149) :: (x150) :: (x151) :: (x152) :: (x153) :: (x154) :: (x155) :: (x156) :: (x157) :: (x158) :: (x159) :: (x160) :: (x161) :: (x162) :: (x163) :: (x164) :: (x165) :: (x166) :: (x167) :: (x168) :: (x169) :: (x170) :: (x171) :: (x172) :: (x173) :: (x174) :: (x175) :: (x176) :: (x177) :: (x178) :: (x179) :: (x180) :: (x181) :: (x182) :: (x183) :: (x184) :: (x185) :: (x186) :: (x187) :: (x188) :: (x189) :: (x190) :: (x191) :: (x192) :: (x193) :: (x194) :: (x195) :: (x196) :: (x197) :: (x198) :: (x199) :: (x200) :: (x201) :: (x202) :: (x203) :: (x204) :: (x205) :: (x206) :: (x207) :: (x208) :: (x209) :: (x210) :: (x211) :: (x212) :: (x213) :: (x214) :: (x215) :: (x216) :: (x217) :: (x218) :: (x219) :: (x220) :: (x221) :: (x222) :: (x223) :: (x224) :: (x225) :: (x226) :: (x227) :: (x228) :: (x229) :: (x230) :: (x231) :: (x232) :: (x233) :: (x234) :: (x235) :: (x236) :: (x237) :: (x238) :: (x239) :: (x240) :: (x241) :: (x242) :: (x243) :: (x244) :: (x245) :: (x246) :: (x247) :: (x248) :: (x249) :: (x250) :: (x251) :: (x252) :: (x253) :: (x254) :: (x255) :: (x256) :: (x257) :: (x258) :: (x259) :: (x260) :: (x261) :: (x262) :: (x263) :: (x264) :: (x265) :: (x266) :: (x267) :: (x268) :: (x269) :: (x270) :: (x271) :: (x272) :: (x273) :: (x274) :: (x275) :: (x276) :: (x277) :: (x278) :: (x279) :: (x280) :: (x281) :: (x282) :: (x283) :: (x284) :: (x285) :: (x286) :: (x287) :: (x288) :: (x289) :: (x290) :: (x291) :: (x292) :: (x293) :: (x294) :: (x295) :: (x296) :: (x297) :: (x298) :: (x299) :: (x300) :: (x301) :: (x302) :: (x303) :: (x304) :: (x305) :: (x306) :: (x307) :: (x308) :: (x309) :: (x310) :: (x311) :: (x312) :: (x313) :: (x314) :: (x315) :: (x316) :: (x317) :: (x318) :: (x319) :: (x320) :: (x321) :: (x322) :: (x323) :: []), []⟩ w2 := by
  conv => arg 2; whnf
  obtain ⟨aLo, a1, a2, a3⟩ := umod i3 n j3 hn0
  obtain ⟨dA, hdA⟩ : ∃ dA, dA = n - aLo := ⟨_, rfl⟩
  have a4 : (n : Int) - (aLo : Int) = (dA : Int) := by omega
  obtain ⟨eA, a5, a6, a7⟩ := umod i4 dA j4 (by omega)
  obtain ⟨wa, hwa⟩ : ∃ wa, wa = eA + 1 := ⟨_, rfl⟩
  obtain ⟨aHi, haH⟩ : ∃ aHi, aHi = aLo + wa := ⟨_, rfl⟩
  have a8 : (aLo : Int) + 1 + (eA : Int) = (aHi : Int) := by omega
  have a9 : (aHi : Int) - (aLo : Int) = (wa : Int) := by omega
  obtain ⟨bLo, b1, b2, b3⟩ := umod i5 m j5 hm0
  obtain ⟨dB, hdB⟩ : ∃ dB, dB = m - bLo := ⟨_, rfl⟩
  have b4 : (m : Int) - (bLo : Int) = (dB : Int) := by omega
  obtain ⟨eB, b5, b6, b7⟩ := umod i6 dB j6 (by omega)
  obtain ⟨hb, hhb⟩ : ∃ hb, hb = eB + 1 := ⟨_, rfl⟩
  obtain ⟨bHi, hbH⟩ : ∃ bHi, bHi = bLo + hb := ⟨_, rfl⟩
  have b8 : (bLo : Int) + 1 + (eB : Int) = (bHi : Int) := by omega
  have b9 : (bHi : Int) - (bLo : Int) = (hb : Int) := by omega
  have c1 : aHi ≤ n := by omega
  have c2 : bHi ≤ m := by omega
  have HA : Hid (aLo + wa = aHi) := haH.symm
  have HB : Hid (bLo + hb = bHi) := hbH.symm
  have c3 : dA ≤ 4096 := by omega
  have c4 : dB ≤ 4096 := by omega
  have c5 : 0 < dA := by omega
  have c6 : 0 < dB := by omega
  have c7 : 0 < wa := by omega
  have c8 : 0 < hb := by omega
  have c9 : eA ≤ 4096 := by omega
  have c10 : eB ≤ 4096 := by omega
  have c11 : wa ≤ 4096 := by omega
  have c12 : hb ≤ 4096 := by omega
  have n1 : ((n : Int) == 0) = false := by rw [beq_eq_false_iff_ne]; omega
  have n2 : ((m : Int) == 0) = false := by rw [beq_eq_false_iff_ne]; omega
  have n3 : ((dA : Int) == 0) = false := by rw [beq_eq_false_iff_ne]; omega
  have n4 : ((dB : Int) == 0) = false := by rw [beq_eq_false_iff_ne]; omega
  have HL : Hid (lca ≤ maxLen ∧ lcb ≤ maxLen) := ⟨hlca, hlcb⟩
  have HR : Hid (w2.heap[DA]? = some (rowI za) ∧ w2.heap[DB]? = some (rowI zb)) := ⟨rA, rB⟩
  clear hdA hdB hwa hhb haH hbH hlca hlcb rA rB
  go_upto_if 150 with fail
  go_cut [36] (fun v36 wc => ∃ mn : Nat, v36 = .int .i64 mn ∧ 0 < mn ∧ mn ≤ wa ∧ mn ≤ hb ∧ w2 = wc)
  case first =>
    by_cases hlt : hb < wa
    · have hlt' : ((hb : Int) < (wa : Int)) := by omega
      go_wp2_with fail
      go_meet
      exact ⟨hb, rfl, c8, by omega, Nat.le_refl _, rfl⟩
    · have hlt' : ¬ ((hb : Int) < (wa : Int)) := by omega
      go_wp2_with fail
      go_meet
      exact ⟨wa, rfl, c7, Nat.le_refl _, by omega, rfl⟩
  case rest =>
    obtain ⟨mn, rfl, m1, m2, m3, rfl⟩ := hcut
    obtain ⟨e7, d1, d2, d3⟩ := umod i7 mn j7 m1
    obtain ⟨p, hp⟩ : ∃ p, p = e7 + 1 := ⟨_, rfl⟩
    have d4 : 1 + (e7 : Int) = (p : Int) := by omega
    have p1 : 0 < p := by omega
    have p2 : p ≤ wa := by omega
    have p3 : p ≤ hb := by omega
    have p4 : p ≤ 4096 := by omega
    have p5 : mn ≤ 4096 := by omega
    have n5 : ((mn : Int) == 0) = false := by rw [beq_eq_false_iff_ne]; omega
    clear hp a2 a3 a4 a6 a7 a8 a9 b2 b3 b4 b6 b7 b8 b9
    go_upto_region 27 with fail
    rename_i KB haB
    go_cut [37] (fun v37 wc => v37 = .int .i64 p ∧ w2 = wc)
    case first =>
      go_wp2_with fail
      go_meet
      exact ⟨rfl, rfl⟩
    case rest =>
      obtain ⟨rfl, rfl⟩ := hcut
      exact haB _ _ (law_m2 POST w HFIN w2 DA DB n m aLo aHi bLo bHi wa hb p lca cca lcb ccb sca scb za zb hza hzb hsa hsb hn4 hm4 HA.out HB.out c1 c2 p1 p2 p3 HR.out.1 HR.out.2 hb2 HL.out.1 HL.out.2 hca hcb)

end Go.Proofs.Ybulkdwba.lawB
