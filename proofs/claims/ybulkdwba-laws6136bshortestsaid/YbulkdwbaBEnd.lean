/-
  FOR 'Rows.LawS6136BShortestSaid': compareByBits: the end
-/
import Derived.Test.YbulkdwbaBPart6
import Derived.Test.YbulkdwbaBPart02
import Derived.Test.YbulkdwbaBPart4
import Derived.Test.YbulkdwbaBDif
import Derived.Deep.CutBlock
import Derived.Deep.CutRange
import Derived.Deep.DeepCutAuto
import Derived.Deep.RegionHeld3
namespace Go.Proofs.Ybulkdwba.lawB
open Go.ChangeShapes Go.WideShapes Go.ChangeAt Go.RowKit Go.Deep Go.Maps
open lawC (rowI rowI_cell rowI_frozen rowI_set made_rowI info3)
set_option linter.unusedVariables false

def isLast (n : Nat) : Code → Bool
  | .block k _ => k == n
  | .seq _ b => isLast n b
  | _ => false
/-- What follows block n in a function's text. -/
def fTail (n : Nat) : Code → Option Code
  | .seq a b => if isLast n a then some b else match fTail n a with
    | some c => some c
    | none => fTail n b
  | _ => none
set_option maxRecDepth 100000 in
set_option maxHeartbeats 4000000 in
theorem cbb_end {x0 x1 x2 x3 x4 x5 x6 x7 x8 x9 x10 x11 x14 x15 x16 x17 x18 x19 x20 x21 x22 x25 x26 x27 x28 x29 x30 x31 x32 x33 x34 x35 x36 x37 x38 x39 x40 x41 x42 x43 x44 x45 x46 x47 x48 x49 x50 x51 x52 x53 x54 x55 x56 x57 x58 x59 x60 x61 x62 x63 x64 x65 x66 x67 x68 x69 x70 x71 x72 x73 x74 x75 x76 x77 x78 x79 x80 x81 x82 x83 x84 x85 x86 x87 x88 x89 x90 x91 x92 x93 x94 x95 x96 x97 x98 x99 x100 x101 x102 x103 x104 x105 x106 x107 x108 x109 x110 x111 x112 x113 x114 x115 x116 x117 x118 x119 x120 x121 x122 x123 x124 x125 x126 x127 x128 x129 x130 x131 x132 x133 x134 x135 x136 x137 x138 x139 x140 x141 x142 x143 x144 x145 x146 x147 x148 x149 x150 x151 x152 x153 x154 x155 x156 x157 x158 x159 x160 x161 x162 x163 x164 x165 x166 x167 x168 x169 x170 x171 x172 x173 x174 x175 x176 x177 x178 x179 x180 x181 x182 x183 x184 x185 x186 x187 x188 x189 x190 x191 x192 x193 x194 x195 x196 x197 x198 x199 x200 x201 x202 x203 x204 x205 x206 x207 x208 x209 x210 x211 x212 x213 x214 x215 x216 x217 x218 x219 x220 x221 x222 x223 x224 x225 x226 x227 x228 x229 x230 x231 x232 x233 x234 x235 x236 x237 x238 x239 x240 x241 x242 x243 x244 x245 x246 x247 x248 x249 x250 x251 x252 x253 x254 x255 x256 x257 x258 x259 x260 x261 x262 x263 x264 x265 x266 : Value} (w1 : World) (P R X Y CX CY xo yo n m W fin wl N mb : Nat) (lo : Int) (p : Option Addr) (l c : Nat) (mm : Option Nat) (q : Int → Option Nat) (mt : List Nat) (zx zy : List Int) (bx0 by0 : List Bool) (hne : CX ≠ CY) (hnb : n ≤ 4096) (hmb : m ≤ 4096) (hxl : xo + n ≤ bx0.length) (hyl : yo + m ≤ by0.length) (hfm : fin ≤ m) (POST : Ending → World → Prop) (HFIN : Hid (∀ ws bx by' hf, PB w1 P R X Y CX CY xo yo n m W fin wl N mb lo p l c mm q mt zx zy bx0 by0 ws bx by' hf → Back (lin zx xo) (lin zy yo) n m (mk bx xo) (mk by' yo) 0 0 → POST (.returned (.tuple #[])) hf)) (ws : List Nat) (bx by' : List Bool) (i j cCX cCY : Nat) (wr0 : World) (hi : i ≤ n) (hj : j ≤ fin) (hij : i = 0 ∨ j = 0) (hb : Back (lin zx xo) (lin zy yo) n m (mk bx xo) (mk by' yo) i j) (hs : PB w1 P R X Y CX CY xo yo n m W fin wl N mb lo p l c mm q mt zx zy bx0 by0 ws bx by' wr0) :
    Code.wp Yba.prog ((Yba.f16.body.bind (fTail 4)).getD .skip) (bodyPost Yba.prog Yba.f16 POST) ⟨List.toArray ((x0) :: (x1) :: (x2) :: (x3) :: (x4) :: (x5) :: (x6) :: (x7) :: (x8) :: (x9) :: (x10) :: (x11) :: (.slice (some ⟨CX, xo, none⟩) n cCX) :: (.slice (some ⟨CY, yo, none⟩) fin cCY) :: (x14) :: (x15) :: (x16) :: (x17) :: (x18) :: (x19) :: (x20) :: (x21) :: (x22) :: (.int .i64 i) :: (.int .i64 j) :: (x25) :: (x26) :: (x27) :: (x28) :: (x29) :: (x30) :: (x31) :: (x32) :: (x33) :: (x34) :: (x35) :: (x36) :: (x37) :: (x38) :: (x39) :: (x40) :: (x41) :: (x42) :: (x43) :: (x44) :: (x45) :: (x46) :: (x47) :: (x48) :: (x49) :: (x50) :: (x51) :: (x52) :: (x53) :: (x54) :: (x55) :: (x56) :: (x57) :: (x58) :: (x59) :: (x60) :: (x61) :: (x62) :: (x63) :: (x64) :: (x65) :: (x66) :: (x67) :: (x68) :: (x69) :: (x70) :: (x71) :: (x72) :: (x73) :: (x74) :: (x75) :: (x76) :: (x77) :: (x78) :: (x79) :: (x80) :: (x81) :: (x82) :: (x83) :: (x84) :: (x85) :: (x86) :: (x87) :: (x88) :: (x89) :: (x90) :: (x91) :: (x92) :: (x93) :: (x94) :: (x95) :: (x96) :: (x97) :: (x98) :: (x99) :: (x100) :: (x101) :: (x102) :: (x103) :: (x104) :: (x105) :: (x106) :: (x107) :: (x108) :: (x109) :: (x110) :: (x111) :: (x112) :: (x113) :: (x114) :: (x115) :: (x116) :: (x117) :: (x118) :: (x119) :: (x120) :: (x121) :: (x122) :: (x123) :: (x124) :: (x125) :: (x126) :: (x127) :: (x128) :: (x129) :: (x130) :: (x131) :: (x132) :: (x133) :: (x134) :: (x135) :: (x136) :: (x137) :: (x138) :: (x139) :: (x140) :: (x141) :: (x142) :: (x143) :: (x144) :: (x145) :: (x146) :: (x147) :: (x148) :: (x149) :: (x150) :: (x151) :: (x152) :: (x153) :: (x154) :: (x155) :: (x156) :: (x157) :: (x158) :: (x159) :: (x160) :: (x161) :: (x162) :: (x163) :: (x164) :: (x165) :: (x166) :: (x167) :: (x168) :: (x169) :: (x170) :: (x171) :: (x172) :: (x173) :: (x174) :: (x175) :: (x176) :: (x177) :: (x178) :: (x179) :: (x180) :: (x181) :: (x182) :: (x183) :: (x184) :: (x185) :: (x186) :: (x187) :: (x188) :: (x189) :: (x190) :: (x191) :: (x192) :: (x193) :: (x194) :: (x195) :: (x196) :: (x197) :: (x198) :: (x199) :: (x200) :: (x201) :: (x202) :: (x203) :: (x204) :: (x205) :: (x206) :: (x207) :: (x208) :: (x209) :: (x210) :: (x211) :: (x212) :: (x213) :: (x214) :: (x215) :: (x216) :: (x217) :: (x218) :: (x219) :: (x220) :: (x221) :: (x222) :: (x223) :: (x224) :: (x225) :: (x226) :: (x227) :: (x228) :: (x229) :: (x230) :: (x231) :: (x232) :: (x233) :: (x234) :: (x235) :: (x236) :: (x237) :: (x238) :: (x239) :: (x240) :: (x241) :: (x242) :: (x243) :: (x244) :: (x245) :: (x246) :: (x247) :: (x248) :: (x249) :: (x250) :: (x251) :: (x252) :: (x253) :: (x254) :: (x255) :: (x256) :: (x257) :: (x258) :: (x259) :: (x260) :: (x261) :: (x262) :: (x263) :: (x264) :: (x265) :: (x266) :: []), []⟩ wr0 := by
  conv => arg 2; whnf
  go_upto_block 6 with fail
  rename_i KB haB
  refine part6 w1 P R X Y CX CY xo yo n m W fin wl N mb lo p l c mm q mt zx zy bx0 by0 hne hnb hmb hxl hyl hfm ws bx by' i j cCX wr0 hi hij hb hs _ _ ?_
  intro u v23 wc hcut
  obtain ⟨rfl, bx1, hb1, hs1⟩ := hcut
  clear hb hs hij
  refine haB _ _ ?_
  clear haB KB
  go_wp2_with fail
  go_loopw [24] (fun v wr => ∃ (j : Nat) (by' : List Bool), j ≤ fin ∧ v = .int .i64 j ∧ Back (lin zx xo) (lin zy yo) n m (mk bx1 xo) (mk by' yo) 0 j ∧ PB w1 P R X Y CX CY xo yo n m W fin wl N mb lo p l c mm q mt zx zy bx0 by0 ws bx1 by' wr) (fun v _ => (intOf v).toNat)
  case atStart => exact ⟨j, by', hj, rfl, hb1, hs1⟩
  case round =>
    clear hb1 hs1 hj
    obtain ⟨j, by', hj, rfl, hb, hs⟩ := hrel
    by_cases h0 : 0 < j
    · obtain ⟨J, rfl⟩ : ∃ J, j = J + 1 := ⟨j - 1, by omega⟩
      have hly := hs.ly
      have hc := rowV_cell false hs.cy (yo + J) (by omega)
      have hf := rowV_frozen hs.cy (yo + J)
      have HB : Hid (Back (lin zx xo) (lin zy yo) n m (mk bx1 xo) (mk (by'.set (yo + J) true) yo) 0 J) := hb.markL (by rw [L_zero, L_zero]) (mk_set (by omega)).1 (mk_set (by omega)).2
      have HS : Hid (∀ k, PB w1 P R X Y CX CY xo yo n m W fin wl N mb lo p l c mm q mt zx zy bx0 by0 ws bx1 (by'.set (yo + J) true) ((wr.drewN k).setCell ⟨CY, yo + J, none⟩ (.bool true))) := fun k => hs.markY hne (by omega) k
      clear hb hs hly
      go_wp2_with fail
      go_roundw
      case rel => exact ⟨J, _, by omega, by go_num, HB.out, HS.out 0⟩
      case measure => simp [intOf] <;> omega
    · obtain rfl : j = 0 := by omega
      go_wp2_with fail
      go_end0
      exact HFIN.out _ _ _ _ hs hb

end Go.Proofs.Ybulkdwba.lawB
