/-
  FOR 'Rows.LawS6136CWholeSaid': the loop over the common suffix, by itself.
-/
import Derived.Test.YbulkdwbaCState
import Derived.Deep.RegionHeld3
import Derived.Deep.DrawnRows
import Derived.Deep.CutBlock
import Derived.Deep.CutRange
import Derived.Deep.DeepCutAuto
import Derived.Test.YbulkdwbaCPart14
namespace Go.Proofs.Ybulkdwba.lawC
open Go.ChangeShapes Go.WideShapes Go.ChangeAt Go.RowKit Go.Deep
set_option linter.unusedVariables false
attribute [local go_sem ↓] Go.wp_at_zero Go.wp_at_succ
set_option maxRecDepth 100000 in
set_option maxHeartbeats 4000000 in
theorem part4 {x0 x1 x2 x3 x4 x5 x6 x9 x10 x11 x12 x13 x14 x16 x21 x22 x23 x24 x25 x26 x27 x28 x29 x30 x31 x32 x33 x34 x35 x36 x37 x38 x39 x40 x41 x42 x43 x44 x45 x46 x47 x48 x49 x50 x51 x52 x53 x54 x55 x57 x58 x59 x60 x61 x62 x63 x64 x65 x66 x67 x68 x69 x70 x71 x72 x73 x74 x75 x76 x77 x78 x79 x80 x81 x82 x83 x84 x85 x86 x87 x88 x89 x90 x91 x92 x93 x94 x95 x96 x97 x98 x99 x100 x101 x102 x103 x104 x105 x106 x107 x108 x109 x110 x111 x112 x113 x114 x115 x116 x117 x118 x119 x120 x121 x122 x123 x124 x125 x126 x127 x128 x129 x130 x131 x132 x133 x134 x135 x136 x137 x138 x139 x140 x141 x142 x143 x144 x145 x146 x147 x148 x149 x150 x151 x152 x153 x154 x155 x156 x157 x158 x159 x160 x161 x162 x163 x164 x165 x166 x167 x168 x169 x170 x171 x172 x173 x174 x175 x176 x177 x178 x179 x180 x181 x182 x183 x184 x185 x186 x187 x188 x189 x190 x191 x192 x193 x194 x195 x196 x197 x198 x199 x200 x201 x202 x203 x204 x205 x206 x207 x208 x209 x210 x211 x212 x213 x214 x215 x216 x217 x218 x219 x220 x221 x222 x223 x224 x225 x226 x227 x228 x229 x230 x231 x232 x233 x234 x235 x236 x237 x238 x239 x240 x241 x242 x243 x244 x245 x246 x247 x248 x249 x250 x251 x252 x253 x254 x255 x256 x257 x258 x259 x260 x261 x262 x263 x264 x265 x266 x267 x268 x269 x270 x271 x272 x273 x274 x275 x276 x277 x278 x279 x280 x281 x282 x283 x284 x285 x286 x287 x288 x289 x290 x291 x292 : Value} (w : World) (A B C W : Nat) (ra rb : Option Addr) (ci oi : List Int) (n : Nat) (xs : List Ch) (la lb i : Nat) (hla : la ≤ 16384) (hlb : lb ≤ 16384) (HCL : Hid (ci.length = la)) (HOL : Hid (oi.length = lb)) (g : Nat) (c : Ch) (wf : World) (hSf : St w A B C W ra rb ci oi n (xs ++ [c]) (xs.map (trim ci oi)) wf) (c0 : wf.cell? ⟨g, 0, none⟩ = some (.bool c.cf)) (c1 : wf.cell? ⟨g, 1, none⟩ = some (.int .i64 c.cl)) (c2 : wf.cell? ⟨g, 2, none⟩ = some (.int .i64 c.ch)) (c5 : wf.cell? ⟨g, 5, none⟩ = some (.int .i64 c.ol)) (c6 : wf.cell? ⟨g, 6, none⟩ = some (.int .i64 c.oh)) (k1 : c.cl ≤ c.ch) (k2 : c.ch ≤ la) (k3 : c.ol ≤ c.oh) (k4 : c.oh ≤ lb) (hw1 : width c ≤ c.ch - c.cl) (hw2 : width c ≤ c.oh - c.ol) (p k0 : Nat) (hpw : p ≤ width c) (HS2 : Hid (sfx ci oi c = lcp (sameR ci oi c.ch c.oh) (width c - p)))  (K : Act → World → Prop) (Q : Exit → Act → World → Prop)
    (hK : ∀ (u : Nat → Value) (v : Value) (v56 : Value) (wc : World), (v = .int .i64 (sfx ci oi c) ∧ v56 = .int .i64 i ∧ ∃ k, wc = wf.drewN k) → K ⟨List.toArray ((x0) :: (x1) :: (x2) :: (x3) :: (x4) :: (x5) :: (x6) :: (.slice ra la la) :: (.slice rb lb lb) :: (x9) :: (x10) :: (x11) :: (x12) :: (x13) :: (x14) :: (.pointer (some ⟨g, 0, none⟩)) :: (x16) :: (.int .i64 (↑c.ch - ↑c.cl)) :: (.int .i64 (↑c.oh - ↑c.ol)) :: (.int .i64 p) :: (v) :: (x21) :: (x22) :: (x23) :: (x24) :: (x25) :: (x26) :: (x27) :: (x28) :: (x29) :: (x30) :: (x31) :: (x32) :: (x33) :: (x34) :: (x35) :: (x36) :: (x37) :: (x38) :: (x39) :: (x40) :: (x41) :: (x42) :: (x43) :: (x44) :: (x45) :: (x46) :: (x47) :: (x48) :: (x49) :: (x50) :: (x51) :: (x52) :: (x53) :: (x54) :: (x55) :: (v56) :: (u 57) :: (u 58) :: (u 59) :: (u 60) :: (u 61) :: (u 62) :: (u 63) :: (u 64) :: (u 65) :: (u 66) :: (u 67) :: (u 68) :: (u 69) :: (u 70) :: (u 71) :: (u 72) :: (u 73) :: (u 74) :: (u 75) :: (u 76) :: (u 77) :: (u 78) :: (u 79) :: (u 80) :: (u 81) :: (u 82) :: (u 83) :: (u 84) :: (u 85) :: (u 86) :: (u 87) :: (u 88) :: (u 89) :: (u 90) :: (u 91) :: (u 92) :: (u 93) :: (u 94) :: (u 95) :: (u 96) :: (u 97) :: (u 98) :: (u 99) :: (u 100) :: (u 101) :: (u 102) :: (u 103) :: (u 104) :: (u 105) :: (u 106) :: (u 107) :: (u 108) :: (u 109) :: (u 110) :: (u 111) :: (u 112) :: (u 113) :: (u 114) :: (u 115) :: (u 116) :: (u 117) :: (u 118) :: (u 119) :: (u 120) :: (u 121) :: (u 122) :: (u 123) :: (u 124) :: (u 125) :: (u 126) :: (u 127) :: (u 128) :: (u 129) :: (u 130) :: (u 131) :: (u 132) :: (u 133) :: (u 134) :: (u 135) :: (u 136) :: (u 137) :: (u 138) :: (u 139) :: (u 140) :: (u 141) :: (u 142) :: (u 143) :: (u 144) :: (u 145) :: (u 146) :: (u 147) :: (u 148) :: (u 149) :: (u 150) :: (u 151) :: (u 152) :: (u 153) :: (u 154) :: (u 155) :: (u 156) :: (u 157) :: (u 158) :: (u 159) :: (u 160) :: (u 161) :: (u 162) :: (u 163) :: (u 164) :: (u 165) :: (u 166) :: (u 167) :: (u 168) :: (u 169) :: (u 170) :: (u 171) :: (u 172) :: (u 173) :: (u 174) :: (u 175) :: (u 176) :: (u 177) :: (u 178) :: (u 179) :: (u 180) :: (u 181) :: (u 182) :: (u 183) :: (u 184) :: (u 185) :: (u 186) :: (u 187) :: (u 188) :: (u 189) :: (u 190) :: (u 191) :: (u 192) :: (u 193) :: (u 194) :: (u 195) :: (u 196) :: (x197) :: (x198) :: (x199) :: (x200) :: (x201) :: (x202) :: (x203) :: (x204) :: (x205) :: (x206) :: (x207) :: (x208) :: (x209) :: (x210) :: (x211) :: (x212) :: (x213) :: (x214) :: (x215) :: (x216) :: (x217) :: (x218) :: (x219) :: (x220) :: (x221) :: (x222) :: (x223) :: (x224) :: (x225) :: (x226) :: (x227) :: (x228) :: (x229) :: (x230) :: (x231) :: (x232) :: (x233) :: (x234) :: (x235) :: (x236) :: (x237) :: (x238) :: (x239) :: (x240) :: (x241) :: (x242) :: (x243) :: (x244) :: (x245) :: (x246) :: (x247) :: (x248) :: (x249) :: (x250) :: (x251) :: (x252) :: (x253) :: (x254) :: (x255) :: (x256) :: (x257) :: (x258) :: (x259) :: (x260) :: (x261) :: (x262) :: (x263) :: (x264) :: (x265) :: (x266) :: (x267) :: (x268) :: (x269) :: (x270) :: (x271) :: (x272) :: (x273) :: (x274) :: (x275) :: (x276) :: (x277) :: (x278) :: (x279) :: (x280) :: (x281) :: (x282) :: (x283) :: (x284) :: (x285) :: (x286) :: (x287) :: (x288) :: (x289) :: (x290) :: (x291) :: (x292) :: []), []⟩ wc) :
    Code.wp Yba.prog ((Yba.f4.body.bind (fBlock 4)).getD .skip) (Exit.then K Q) ⟨List.toArray ((x0) :: (x1) :: (x2) :: (x3) :: (x4) :: (x5) :: (x6) :: (.slice ra la la) :: (.slice rb lb lb) :: (x9) :: (x10) :: (x11) :: (x12) :: (x13) :: (x14) :: (.pointer (some ⟨g, 0, none⟩)) :: (x16) :: (.int .i64 (↑c.ch - ↑c.cl)) :: (.int .i64 (↑c.oh - ↑c.ol)) :: (.int .i64 p) :: (.int .i64 0) :: (x21) :: (x22) :: (x23) :: (x24) :: (x25) :: (x26) :: (x27) :: (x28) :: (x29) :: (x30) :: (x31) :: (x32) :: (x33) :: (x34) :: (x35) :: (x36) :: (x37) :: (x38) :: (x39) :: (x40) :: (x41) :: (x42) :: (x43) :: (x44) :: (x45) :: (x46) :: (x47) :: (x48) :: (x49) :: (x50) :: (x51) :: (x52) :: (x53) :: (x54) :: (x55) :: (.int .i64 i) :: (x57) :: (x58) :: (x59) :: (x60) :: (x61) :: (x62) :: (x63) :: (x64) :: (x65) :: (x66) :: (x67) :: (x68) :: (x69) :: (x70) :: (x71) :: (x72) :: (x73) :: (x74) :: (x75) :: (x76) :: (x77) :: (x78) :: (x79) :: (x80) :: (x81) :: (x82) :: (x83) :: (x84) :: (x85) :: (x86) :: (x87) :: (x88) :: (x89) :: (x90) :: (x91) :: (x92) :: (x93) :: (x94) :: (x95) :: (x96) :: (x97) :: (x98) :: (x99) :: (x100) :: (x101) :: (x102) :: (x103) :: (x104) :: (x105) :: (x106) :: (x107) :: (x108) :: (x109) :: (x110) :: (x111) :: (x112) :: (x113) :: (x114) :: (x115) :: (x116) :: (x117) :: (x118) :: (x119) :: (x120) :: (x121) :: (x122) :: (x123) :: (x124) :: (x125) :: (x126) :: (x127) :: (x128) :: (x129) :: (x130) :: (x131) :: (x132) :: (x133) :: (x134) :: (x135) :: (x136) :: (x137) :: (x138) :: (x139) :: (x140) :: (x141) :: (x142) :: (x143) :: (x144) :: (x145) :: (x146) :: (x147) :: (x148) :: (x149) :: (x150) :: (x151) :: (x152) :: (x153) :: (x154) :: (x155) :: (x156) :: (x157) :: (x158) :: (x159) :: (x160) :: (x161) :: (x162) :: (x163) :: (x164) :: (x165) :: (x166) :: (x167) :: (x168) :: (x169) :: (x170) :: (x171) :: (x172) :: (x173) :: (x174) :: (x175) :: (x176) :: (x177) :: (x178) :: (x179) :: (x180) :: (x181) :: (x182) :: (x183) :: (x184) :: (x185) :: (x186) :: (x187) :: (x188) :: (x189) :: (x190) :: (x191) :: (x192) :: (x193) :: (x194) :: (x195) :: (x196) :: (x197) :: (x198) :: (x199) :: (x200) :: (x201) :: (x202) :: (x203) :: (x204) :: (x205) :: (x206) :: (x207) :: (x208) :: (x209) :: (x210) :: (x211) :: (x212) :: (x213) :: (x214) :: (x215) :: (x216) :: (x217) :: (x218) :: (x219) :: (x220) :: (x221) :: (x222) :: (x223) :: (x224) :: (x225) :: (x226) :: (x227) :: (x228) :: (x229) :: (x230) :: (x231) :: (x232) :: (x233) :: (x234) :: (x235) :: (x236) :: (x237) :: (x238) :: (x239) :: (x240) :: (x241) :: (x242) :: (x243) :: (x244) :: (x245) :: (x246) :: (x247) :: (x248) :: (x249) :: (x250) :: (x251) :: (x252) :: (x253) :: (x254) :: (x255) :: (x256) :: (x257) :: (x258) :: (x259) :: (x260) :: (x261) :: (x262) :: (x263) :: (x264) :: (x265) :: (x266) :: (x267) :: (x268) :: (x269) :: (x270) :: (x271) :: (x272) :: (x273) :: (x274) :: (x275) :: (x276) :: (x277) :: (x278) :: (x279) :: (x280) :: (x281) :: (x282) :: (x283) :: (x284) :: (x285) :: (x286) :: (x287) :: (x288) :: (x289) :: (x290) :: (x291) :: (x292) :: []), []⟩ (wf.drewN k0) := by
  conv => arg 2; whnf
  go_cut [20, 56] from 56 to 196 (fun v v56 wc => v = .int .i64 (sfx ci oi c) ∧ v56 = .int .i64 i ∧ ∃ k, wc = wf.drewN k)
  case rest =>
    exact hK (fun n => ([u57, u58, u59, u60, u61, u62, u63, u64, u65, u66, u67, u68, u69, u70, u71, u72, u73, u74, u75, u76, u77, u78, u79, u80, u81, u82, u83, u84, u85, u86, u87, u88, u89, u90, u91, u92, u93, u94, u95, u96, u97, u98, u99, u100, u101, u102, u103, u104, u105, u106, u107, u108, u109, u110, u111, u112, u113, u114, u115, u116, u117, u118, u119, u120, u121, u122, u123, u124, u125, u126, u127, u128, u129, u130, u131, u132, u133, u134, u135, u136, u137, u138, u139, u140, u141, u142, u143, u144, u145, u146, u147, u148, u149, u150, u151, u152, u153, u154, u155, u156, u157, u158, u159, u160, u161, u162, u163, u164, u165, u166, u167, u168, u169, u170, u171, u172, u173, u174, u175, u176, u177, u178, u179, u180, u181, u182, u183, u184, u185, u186, u187, u188, u189, u190, u191, u192, u193, u194, u195, u196] : List Value).getD (n - 57) undef) _ _ wc hcut
  case first =>
    clear hK
    go_wp2_with fail
    go_loopw [20] (fun v wx => ∃ q : Nat, v = .int .i64 q ∧ q ≤ width c - p ∧ (∀ i, i < q → sameR ci oi c.ch c.oh i = true) ∧ ∃ k, wx = wf.drewN k) (fun v _ => width c - p - (intOf v).toNat)
    case atStart => exact ⟨0, rfl, Nat.zero_le _, fun i hi => absurd hi (by omega), k0, rfl⟩
    case round =>
      obtain ⟨q, rfl, hqw, hsame, kd, rfl⟩ := hrel
      have hend : ∀ b : Bool, (q < width c - p → sameR ci oi c.ch c.oh q = false) → q = sfx ci oi c := fun _ h => by rw [HS2.out]; exact (lcp_eq _ _ q hqw hsame h).symm
      have hw3 : c.cl + p + q < c.ch → c.ol + p + q < c.oh → q < width c - p := fun h1 h2 => by unfold width; omega
      by_cases h1 : c.cl + p + q < c.ch
      · have t1 : (q : Int) < (c.ch : Int) - (c.cl : Int) - (p : Int) := by omega
        by_cases h2 : c.ol + p + q < c.oh
        · have t2 : (q : Int) < (c.oh : Int) - (c.ol : Int) - (p : Int) := by omega
          obtain ⟨ga, rfl, hga⟩ := hSf.ia (by rw [HCL.out]; omega)
          obtain ⟨gb, rfl, hgb⟩ := hSf.ib (by rw [HOL.out]; omega)
          have i1 := rowI_cell hga (c.ch - 1 - q) (by rw [HCL.out]; omega)
          have i2 := rowI_cell hgb (c.oh - 1 - q) (by rw [HOL.out]; omega)
          cases heq : (ci[c.ch - 1 - q]?.getD 0 == oi[c.oh - 1 - q]?.getD 0) with
          | true =>
            go_wp2_with fail
            go_quiet (fail)
            go_wp2
            go_roundw
            case rel =>
              refine ⟨q + 1, by go_num, hw3 h1 h2, ?_, _, by first | rfl | exact World.drewN_drewN _ _ _⟩
              intro i hi
              by_cases e : i = q
              · subst e; exact heq
              · exact hsame i (by omega)
            case measure => have := hw3 h1 h2; simp [intOf]; omega
          | false =>
            go_wp2_with fail
            go_quiet (fail)
            go_wp2
            go_meet
            exact ⟨by rw [← hend true (fun _ => heq)], rfl, _, World.drewN_drewN _ _ _⟩
        · have hf2 : decide ((q : Int) < (c.oh : Int) - (c.ol : Int) - (p : Int)) = false := by simp; omega
          go_wp2_with fail
          go_quiet (fail)
          go_wp2
          go_meet
          exact ⟨by rw [← hend true (fun h => by omega)], rfl, _, World.drewN_drewN _ _ _⟩
      · have hf1 : decide ((q : Int) < (c.ch : Int) - (c.cl : Int) - (p : Int)) = false := by simp; omega
        go_wp2_with fail
        go_quiet (fail)
        go_wp2
        go_meet
        exact ⟨by rw [← hend true (fun h => by omega)], rfl, _, World.drewN_drewN _ _ _⟩
end Go.Proofs.Ybulkdwba.lawC
