/-
  FOR 'Rows.LawS6136CWholeSaid': the region of the struct literal, by itself.
-/
import Derived.Test.YbulkdwbaCState
import Derived.Deep.RegionHeld3
import Derived.Deep.DrawnRows
import Derived.Deep.CutBlock
import Derived.Deep.CutRange
import Derived.Deep.DeepCutAuto
namespace Go.Proofs.Ybulkdwba.lawC
open Go.ChangeShapes Go.WideShapes Go.ChangeAt Go.RowKit Go.Deep
set_option linter.unusedVariables false
attribute [local go_sem ↓] Go.wp_at_zero Go.wp_at_succ

/-- A statement of a function's text, found by its number: no text is typed anew. -/
def fRegion (n : Nat) : Code → Option Code
  | .region k ops d => if k = n then some (.region k ops d) else none
  | .seq a b => match fRegion n a with
    | some c => some c
    | none => fRegion n b
  | .cond _ a b => match fRegion n a with
    | some c => some c
    | none => fRegion n b
  | .block _ c => fRegion n c
  | .loop c => fRegion n c
  | .scope c => fRegion n c
  | _ => none
def fBlock (n : Nat) : Code → Option Code
  | .block k c => if k = n then some (.block k c) else fBlock n c
  | .seq a b => match fBlock n a with
    | some c => some c
    | none => fBlock n b
  | .cond _ a b => match fBlock n a with
    | some c => some c
    | none => fBlock n b
  | .loop c => fBlock n c
  | .scope c => fBlock n c
  | _ => none
set_option maxRecDepth 100000 in
set_option maxHeartbeats 4000000 in
theorem part14 {x0 x1 x2 x3 x4 x5 x6 x9 x10 x11 x12 x13 x15 x16 x17 x18 x19 x20 x21 x22 x23 x24 x25 x26 x27 x28 x29 x30 x31 x32 x33 x34 x35 x36 x37 x38 x39 x40 x41 x42 x43 x44 x45 x46 x47 x48 x49 x50 x51 x52 x53 x54 x55 x57 x58 x59 x60 x61 x62 x63 x64 x65 x66 x67 x68 x69 x70 x71 x72 x73 x74 x75 x76 x77 x78 x79 x80 x81 x82 x83 x84 x85 x86 x87 x88 x89 x90 x91 x92 x93 x94 x95 x96 x97 x98 x99 x100 x101 x102 x103 x104 x105 x106 x107 x108 x109 x110 x111 x112 x113 x114 x115 x116 x117 x118 x119 x120 x121 x122 x123 x124 x125 x126 x127 x128 x129 x130 x131 x132 x133 x134 x135 x136 x137 x138 x139 x140 x141 x142 x143 x144 x145 x146 x147 x148 x149 x150 x151 x152 x153 x154 x155 x156 x157 x158 x159 x160 x161 x162 x163 x164 x165 x166 x167 x168 x169 x170 x171 x172 x173 x174 x175 x176 x177 x178 x179 x180 x181 x182 x183 x184 x185 x186 x187 x188 x189 x190 x191 x192 x193 x194 x195 x196 x197 x198 x199 x200 x201 x202 x203 x204 x205 x206 x207 x208 x209 x210 x211 x212 x213 x214 x215 x216 x217 x218 x219 x220 x221 x222 x223 x224 x225 x226 x227 x228 x229 x230 x231 x232 x233 x234 x235 x236 x237 x238 x239 x240 x241 x242 x243 x244 x245 x246 x247 x248 x249 x250 x251 x252 x253 x254 x255 x256 x257 x258 x259 x260 x261 x262 x263 x264 x265 x266 x267 x268 x269 x270 x271 x272 x273 x274 x275 x276 x277 x278 x279 x280 x281 x282 x283 x284 x285 x286 x287 x288 x289 x290 x291 x292 : Value} (w : World) (A B C W : Nat) (ra rb : Option Addr) (ci oi : List Int) (n : Nat) (xs : List Ch) (la lb i : Nat) (hla : la ≤ 16384) (hlb : lb ≤ 16384) (HCL : Hid (ci.length = la)) (HOL : Hid (oi.length = lb)) (D : Nat) (r : Nat → Rec) (wd : World) (hSd : St w A B C W ra rb ci oi n xs (xs.map (trim ci oi)) wd) (hDl : D < wd.heap.size) (d0 : wd.cell? ⟨D, 0, none⟩ = some (.bool (r i).cf)) (d1 : wd.cell? ⟨D, 1, none⟩ = some (.int .i64 (r i).a1)) (d2 : wd.cell? ⟨D, 2, none⟩ = some (.int .i64 (r i).a2)) (d3 : wd.cell? ⟨D, 3, none⟩ = some (.int .i64 (r i).a3)) (d4 : wd.cell? ⟨D, 4, none⟩ = some (.int .i64 (r i).a4)) (d5 : wd.cell? ⟨D, 5, none⟩ = some (.int .i64 (r i).a5)) (d6 : wd.cell? ⟨D, 6, none⟩ = some (.int .i64 (r i).a6)) (K : Act → World → Prop) (Q : Exit → Act → World → Prop)
    (hK : ∀ (u : Nat → Value) (v15 : Value) (v56 : Value) (wc : World), (v56 = .int .i64 i ∧ ∃ g c, v15 = .pointer (some ⟨g, 0, none⟩) ∧ wc.heap[g]? = some (boxC c) ∧ c.ok ci.length oi.length ∧ g ≠ C ∧ g ≠ W ∧ w.heap.size ≤ g ∧ St w A B C W ra rb ci oi n xs (xs.map (trim ci oi)) wc) → K ⟨List.toArray ((x0) :: (x1) :: (x2) :: (x3) :: (x4) :: (x5) :: (x6) :: (.slice ra la la) :: (.slice rb lb lb) :: (x9) :: (x10) :: (x11) :: (x12) :: (x13) :: (.pointer (some ⟨D, 0, none⟩)) :: (v15) :: (x16) :: (x17) :: (x18) :: (x19) :: (x20) :: (x21) :: (x22) :: (x23) :: (x24) :: (x25) :: (x26) :: (x27) :: (x28) :: (x29) :: (x30) :: (x31) :: (x32) :: (x33) :: (x34) :: (x35) :: (x36) :: (x37) :: (x38) :: (x39) :: (x40) :: (x41) :: (x42) :: (x43) :: (x44) :: (x45) :: (x46) :: (x47) :: (x48) :: (x49) :: (x50) :: (x51) :: (x52) :: (x53) :: (x54) :: (x55) :: (v56) :: (u 57) :: (u 58) :: (u 59) :: (u 60) :: (u 61) :: (u 62) :: (u 63) :: (u 64) :: (u 65) :: (u 66) :: (u 67) :: (u 68) :: (u 69) :: (u 70) :: (u 71) :: (u 72) :: (u 73) :: (u 74) :: (u 75) :: (u 76) :: (u 77) :: (u 78) :: (u 79) :: (u 80) :: (u 81) :: (u 82) :: (u 83) :: (u 84) :: (u 85) :: (u 86) :: (u 87) :: (u 88) :: (u 89) :: (u 90) :: (u 91) :: (u 92) :: (u 93) :: (u 94) :: (u 95) :: (u 96) :: (u 97) :: (u 98) :: (u 99) :: (u 100) :: (u 101) :: (u 102) :: (u 103) :: (u 104) :: (u 105) :: (u 106) :: (u 107) :: (u 108) :: (u 109) :: (u 110) :: (u 111) :: (u 112) :: (u 113) :: (u 114) :: (u 115) :: (u 116) :: (u 117) :: (u 118) :: (u 119) :: (u 120) :: (u 121) :: (u 122) :: (u 123) :: (u 124) :: (u 125) :: (u 126) :: (u 127) :: (u 128) :: (u 129) :: (u 130) :: (u 131) :: (u 132) :: (u 133) :: (u 134) :: (u 135) :: (u 136) :: (u 137) :: (u 138) :: (u 139) :: (u 140) :: (u 141) :: (u 142) :: (u 143) :: (u 144) :: (u 145) :: (u 146) :: (u 147) :: (u 148) :: (u 149) :: (u 150) :: (u 151) :: (u 152) :: (u 153) :: (u 154) :: (u 155) :: (u 156) :: (u 157) :: (u 158) :: (u 159) :: (u 160) :: (u 161) :: (u 162) :: (u 163) :: (u 164) :: (u 165) :: (u 166) :: (u 167) :: (u 168) :: (u 169) :: (u 170) :: (u 171) :: (u 172) :: (u 173) :: (u 174) :: (u 175) :: (u 176) :: (u 177) :: (u 178) :: (u 179) :: (u 180) :: (u 181) :: (u 182) :: (u 183) :: (u 184) :: (u 185) :: (u 186) :: (u 187) :: (u 188) :: (u 189) :: (u 190) :: (u 191) :: (u 192) :: (u 193) :: (u 194) :: (u 195) :: (u 196) :: (x197) :: (x198) :: (x199) :: (x200) :: (x201) :: (x202) :: (x203) :: (x204) :: (x205) :: (x206) :: (x207) :: (x208) :: (x209) :: (x210) :: (x211) :: (x212) :: (x213) :: (x214) :: (x215) :: (x216) :: (x217) :: (x218) :: (x219) :: (x220) :: (x221) :: (x222) :: (x223) :: (x224) :: (x225) :: (x226) :: (x227) :: (x228) :: (x229) :: (x230) :: (x231) :: (x232) :: (x233) :: (x234) :: (x235) :: (x236) :: (x237) :: (x238) :: (x239) :: (x240) :: (x241) :: (x242) :: (x243) :: (x244) :: (x245) :: (x246) :: (x247) :: (x248) :: (x249) :: (x250) :: (x251) :: (x252) :: (x253) :: (x254) :: (x255) :: (x256) :: (x257) :: (x258) :: (x259) :: (x260) :: (x261) :: (x262) :: (x263) :: (x264) :: (x265) :: (x266) :: (x267) :: (x268) :: (x269) :: (x270) :: (x271) :: (x272) :: (x273) :: (x274) :: (x275) :: (x276) :: (x277) :: (x278) :: (x279) :: (x280) :: (x281) :: (x282) :: (x283) :: (x284) :: (x285) :: (x286) :: (x287) :: (x288) :: (x289) :: (x290) :: (x291) :: (x292) :: []), []⟩ wc) :
    Code.wp Yba.prog ((Yba.f4.body.bind (fRegion 14)).getD .skip) (Exit.then K Q) ⟨List.toArray ((x0) :: (x1) :: (x2) :: (x3) :: (x4) :: (x5) :: (x6) :: (.slice ra la la) :: (.slice rb lb lb) :: (x9) :: (x10) :: (x11) :: (x12) :: (x13) :: (.pointer (some ⟨D, 0, none⟩)) :: (x15) :: (x16) :: (x17) :: (x18) :: (x19) :: (x20) :: (x21) :: (x22) :: (x23) :: (x24) :: (x25) :: (x26) :: (x27) :: (x28) :: (x29) :: (x30) :: (x31) :: (x32) :: (x33) :: (x34) :: (x35) :: (x36) :: (x37) :: (x38) :: (x39) :: (x40) :: (x41) :: (x42) :: (x43) :: (x44) :: (x45) :: (x46) :: (x47) :: (x48) :: (x49) :: (x50) :: (x51) :: (x52) :: (x53) :: (x54) :: (x55) :: (.int .i64 i) :: (x57) :: (x58) :: (x59) :: (x60) :: (x61) :: (x62) :: (x63) :: (x64) :: (x65) :: (x66) :: (x67) :: (x68) :: (x69) :: (x70) :: (x71) :: (x72) :: (x73) :: (x74) :: (x75) :: (x76) :: (x77) :: (x78) :: (x79) :: (x80) :: (x81) :: (x82) :: (x83) :: (x84) :: (x85) :: (x86) :: (x87) :: (x88) :: (x89) :: (x90) :: (x91) :: (x92) :: (x93) :: (x94) :: (x95) :: (x96) :: (x97) :: (x98) :: (x99) :: (x100) :: (x101) :: (x102) :: (x103) :: (x104) :: (x105) :: (x106) :: (x107) :: (x108) :: (x109) :: (x110) :: (x111) :: (x112) :: (x113) :: (x114) :: (x115) :: (x116) :: (x117) :: (x118) :: (x119) :: (x120) :: (x121) :: (x122) :: (x123) :: (x124) :: (x125) :: (x126) :: (x127) :: (x128) :: (x129) :: (x130) :: (x131) :: (x132) :: (x133) :: (x134) :: (x135) :: (x136) :: (x137) :: (x138) :: (x139) :: (x140) :: (x141) :: (x142) :: (x143) :: (x144) :: (x145) :: (x146) :: (x147) :: (x148) :: (x149) :: (x150) :: (x151) :: (x152) :: (x153) :: (x154) :: (x155) :: (x156) :: (x157) :: (x158) :: (x159) :: (x160) :: (x161) :: (x162) :: (x163) :: (x164) :: (x165) :: (x166) :: (x167) :: (x168) :: (x169) :: (x170) :: (x171) :: (x172) :: (x173) :: (x174) :: (x175) :: (x176) :: (x177) :: (x178) :: (x179) :: (x180) :: (x181) :: (x182) :: (x183) :: (x184) :: (x185) :: (x186) :: (x187) :: (x188) :: (x189) :: (x190) :: (x191) :: (x192) :: (x193) :: (x194) :: (x195) :: (x196) :: (x197) :: (x198) :: (x199) :: (x200) :: (x201) :: (x202) :: (x203) :: (x204) :: (x205) :: (x206) :: (x207) :: (x208) :: (x209) :: (x210) :: (x211) :: (x212) :: (x213) :: (x214) :: (x215) :: (x216) :: (x217) :: (x218) :: (x219) :: (x220) :: (x221) :: (x222) :: (x223) :: (x224) :: (x225) :: (x226) :: (x227) :: (x228) :: (x229) :: (x230) :: (x231) :: (x232) :: (x233) :: (x234) :: (x235) :: (x236) :: (x237) :: (x238) :: (x239) :: (x240) :: (x241) :: (x242) :: (x243) :: (x244) :: (x245) :: (x246) :: (x247) :: (x248) :: (x249) :: (x250) :: (x251) :: (x252) :: (x253) :: (x254) :: (x255) :: (x256) :: (x257) :: (x258) :: (x259) :: (x260) :: (x261) :: (x262) :: (x263) :: (x264) :: (x265) :: (x266) :: (x267) :: (x268) :: (x269) :: (x270) :: (x271) :: (x272) :: (x273) :: (x274) :: (x275) :: (x276) :: (x277) :: (x278) :: (x279) :: (x280) :: (x281) :: (x282) :: (x283) :: (x284) :: (x285) :: (x286) :: (x287) :: (x288) :: (x289) :: (x290) :: (x291) :: (x292) :: []), []⟩ wd := by
  conv => arg 2; whnf
  go_cut [15, 56] from 56 to 196 (fun v15 v56 wc => v56 = .int .i64 i ∧ ∃ g c, v15 = .pointer (some ⟨g, 0, none⟩) ∧ wc.heap[g]? = some (boxC c) ∧ c.ok ci.length oi.length ∧ g ≠ C ∧ g ≠ W ∧ w.heap.size ≤ g ∧ St w A B C W ra rb ci oi n xs (xs.map (trim ci oi)) wc)
  case rest =>
    exact hK (fun n => ([u57, u58, u59, u60, u61, u62, u63, u64, u65, u66, u67, u68, u69, u70, u71, u72, u73, u74, u75, u76, u77, u78, u79, u80, u81, u82, u83, u84, u85, u86, u87, u88, u89, u90, u91, u92, u93, u94, u95, u96, u97, u98, u99, u100, u101, u102, u103, u104, u105, u106, u107, u108, u109, u110, u111, u112, u113, u114, u115, u116, u117, u118, u119, u120, u121, u122, u123, u124, u125, u126, u127, u128, u129, u130, u131, u132, u133, u134, u135, u136, u137, u138, u139, u140, u141, u142, u143, u144, u145, u146, u147, u148, u149, u150, u151, u152, u153, u154, u155, u156, u157, u158, u159, u160, u161, u162, u163, u164, u165, u166, u167, u168, u169, u170, u171, u172, u173, u174, u175, u176, u177, u178, u179, u180, u181, u182, u183, u184, u185, u186, u187, u188, u189, u190, u191, u192, u193, u194, u195, u196] : List Value).getD (n - 57) undef) _ _ wc hcut
  case first =>
    clear hK
    have hCl := lt_of_some hSd.rc
    have hWl := lt_of_some hSd.rw
    have hSz := hSd.bel.size
    have tok1 : True := trivial
    have n0 : wd.heap.size ≠ D := by omega
    have n1 : wd.heap.size + 1 ≠ D := by omega
    have n2 : wd.heap.size + 1 + 1 ≠ D := by omega
    go_region_held3 (fun w' => w'.cell? ⟨D, 0, none⟩ = some (.bool (r i).cf) ∧ w'.cell? ⟨D, 1, none⟩ = some (.int .i64 (r i).a1) ∧ w'.cell? ⟨D, 2, none⟩ = some (.int .i64 (r i).a2) ∧ w'.cell? ⟨D, 3, none⟩ = some (.int .i64 (r i).a3) ∧ w'.cell? ⟨D, 4, none⟩ = some (.int .i64 (r i).a4) ∧ w'.cell? ⟨D, 5, none⟩ = some (.int .i64 (r i).a5) ∧ w'.cell? ⟨D, 6, none⟩ = some (.int .i64 (r i).a6)) (simp (maxDischargeDepth := 9) [*, World.cell?_alloc_some])
      (first | (go_at_call 13; have _t := tok1; refine (span_any _ _ la _ hla).mono ?_; rintro e w' ⟨x1, y1, hx1, hy1, rfl, rfl⟩; clear tok1) | (go_at_call 13; refine (span_any _ _ lb _ hlb).mono ?_; rintro e w' ⟨x2, y2, hx2, hy2, rfl, rfl⟩))
    all_goals go_wp2
    all_goals go_meet
    · exact ⟨rfl, wd.heap.size + 1 + 1, ⟨(r i).cf, x1, y1, (r i).a3, (r i).a4, x2, y2⟩, rfl, al3_2 _ _ _ _, ⟨hx1, by rw [HCL.out]; exact hy1, hx2, by rw [HOL.out]; exact hy2⟩, by omega, by omega, by omega, hSd.below (below3 _ _ _ _).drew⟩
    · exact ⟨rfl, wd.heap.size + 1, ⟨(r i).cf, x1, y1, (r i).a3, (r i).a4, x2, y2⟩, rfl, al3_1 _ _ _ _, ⟨hx1, by rw [HCL.out]; exact hy1, hx2, by rw [HOL.out]; exact hy2⟩, by omega, by omega, by omega, hSd.below (below3 _ _ _ _).drew⟩
    · exact ⟨rfl, wd.heap.size, ⟨(r i).cf, x1, y1, (r i).a3, (r i).a4, x2, y2⟩, rfl, al3_0 _ _ _ _, ⟨hx1, by rw [HCL.out]; exact hy1, hx2, by rw [HOL.out]; exact hy2⟩, by omega, by omega, by omega, hSd.below (below3 _ _ _ _).drew⟩
end Go.Proofs.Ybulkdwba.lawC
