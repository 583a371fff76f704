/-
  FOR 'Rows.LawS6136BShortestSaid': compareByBits: the path back
-/
import Derived.Test.YbulkdwbaBPath
import Derived.Deep.CutBlock
import Derived.Deep.CutRange
import Derived.Deep.DeepCutAuto
import Derived.Deep.RegionHeld3
namespace Go.Proofs.Ybulkdwba.lawB
open Go.ChangeShapes Go.WideShapes Go.ChangeAt Go.RowKit Go.Deep Go.Maps
open lawC (rowI rowI_cell rowI_frozen rowI_set made_rowI info3)
set_option linter.unusedVariables false
set_option maxRecDepth 100000 in
set_option maxHeartbeats 4000000 in
theorem part4 {x0 x1 x2 x3 x4 x5 x6 x7 x8 x9 x16 x19 x20 x21 x26 x27 x28 x29 x30 x31 x32 x33 x34 x35 x36 x37 x38 x39 x40 x41 x42 x43 x44 x45 x46 x47 x48 x49 x50 x51 x52 x53 x54 x55 x56 x57 x58 x59 x60 x61 x62 x63 x64 x65 x66 x67 x68 x69 x70 x71 x72 x73 x74 x75 x76 x77 x78 x79 x80 x81 x82 x83 x84 x85 x86 x87 x88 x89 x90 x91 x92 x93 x94 x95 x96 x97 x98 x99 x100 x101 x102 x103 x104 x105 x106 x107 x108 x109 x110 x111 x112 x113 x114 x115 x116 x117 x118 x119 x120 x121 x122 x123 x124 x125 x126 x127 x128 x129 x130 x131 x132 x133 x134 x135 x136 x137 x138 x139 x140 x141 x142 x143 x144 x145 x146 x147 x148 x149 x150 x151 x152 x153 x154 x155 x156 x157 x158 x159 x160 x161 x162 x163 x164 x165 x166 x167 x168 x169 x170 x171 x172 x173 x174 x175 x176 x177 x178 x179 x180 x181 x182 x183 x184 x185 x186 x187 x188 x189 x190 x191 x192 x193 x194 x195 x196 x197 x198 x199 x200 x201 x202 x203 x204 x205 x206 x207 x208 x209 x210 x211 x212 x213 x214 x215 x216 x217 x218 x219 x220 x221 x222 x223 x224 x225 x226 x227 x228 x229 x230 x231 x232 x233 x234 x235 x236 x237 x238 x239 x240 x241 x242 x243 x244 x245 x246 x247 x248 x249 x250 x251 x252 x253 x254 x255 x256 x257 x258 x259 x260 x261 x262 x263 x264 x265 x266 : Value} (w1 : World) (P R X Y CX CY xo yo n m W fin wl N mb : Nat) (lo : Int) (p : Option Addr) (l c : Nat) (mm : Option Nat) (q : Int → Option Nat) (mt : List Nat) (zx zy : List Int) (bx0 by0 : List Bool) (hne : CX ≠ CY) (hnb : n ≤ 4096) (hmb : m ≤ 4096) (hxl : xo + n ≤ bx0.length) (hyl : yo + m ≤ by0.length) (hfm : fin ≤ m) (K cX cY cCX cCY : Nat) (bt : Value) (ws0 : List Nat) (bx0' by0' : List Bool) (wr0 : World) (hW0 : 0 < W) (hWb : W ≤ 64) (hwl : wl ≤ 1000000) (hzx : xo + n ≤ zx.length) (hzy : yo + m ≤ zy.length) (hRm : R ≠ mb) (hcY : fin ≤ cY) (HSM : Hid (∀ k, k < m → Small (lin zy yo k))) (HK : Hid (∀ c', c' * W ≤ fin → c' * W + W ≤ K)) (BL : Nat) (HBL : Hid (BL = (W - 1) * W)) (HKW : Hid (K + BL ≤ wl)) (hKwl : K ≤ wl) (HBT : Hid (2 ≤ W → bt = .slice (some ⟨R, K, none⟩) BL (wl - K))) (hb0 : Back (lin zx xo) (lin zy yo) n m (mk bx0' xo) (mk by0' yo) n fin) (hs0 : PB w1 P R X Y CX CY xo yo n m W fin wl N mb lo p l c mm q mt zx zy bx0 by0 ws0 bx0' by0' wr0) (KK : Act → World → Prop) (QQ : Exit → Act → World → Prop)
    (hK : ∀ (u : Nat → Value) (v22 : Value) (v23 : Value) (v24 : Value) (v25 : Value) (v26 : Value) (wc : World), (∃ (i j : Nat) (ws : List Nat) (bx by' : List Bool), v23 = .int .i64 i ∧ v24 = .int .i64 j ∧ i ≤ n ∧ j ≤ fin ∧ (i = 0 ∨ j = 0) ∧ Back (lin zx xo) (lin zy yo) n m (mk bx xo) (mk by' yo) i j ∧ PB w1 P R X Y CX CY xo yo n m W fin wl N mb lo p l c mm q mt zx zy bx0 by0 ws bx by' wc) → KK ⟨List.toArray ((x0) :: (x1) :: (x2) :: (x3) :: (x4) :: (x5) :: (x6) :: (x7) :: (x8) :: (x9) :: (.slice (some ⟨X, xo, none⟩) n cX) :: (.slice (some ⟨Y, yo, none⟩) fin cY) :: (.slice (some ⟨CX, xo, none⟩) n cCX) :: (.slice (some ⟨CY, yo, none⟩) fin cCY) :: (.pointer (some ⟨P, 0, none⟩)) :: (.int .i64 W) :: (x16) :: (.slice (some ⟨R, 0, none⟩) K wl) :: (bt) :: (x19) :: (x20) :: (x21) :: (v22) :: (v23) :: (v24) :: (v25) :: (v26) :: (x27) :: (x28) :: (x29) :: (x30) :: (x31) :: (x32) :: (x33) :: (x34) :: (x35) :: (x36) :: (x37) :: (x38) :: (x39) :: (x40) :: (x41) :: (x42) :: (x43) :: (x44) :: (x45) :: (x46) :: (x47) :: (x48) :: (x49) :: (x50) :: (x51) :: (x52) :: (x53) :: (x54) :: (x55) :: (x56) :: (x57) :: (x58) :: (x59) :: (x60) :: (x61) :: (x62) :: (x63) :: (x64) :: (x65) :: (x66) :: (x67) :: (x68) :: (x69) :: (x70) :: (x71) :: (x72) :: (x73) :: (x74) :: (x75) :: (x76) :: (x77) :: (x78) :: (x79) :: (x80) :: (x81) :: (x82) :: (x83) :: (x84) :: (x85) :: (x86) :: (x87) :: (x88) :: (x89) :: (x90) :: (x91) :: (x92) :: (x93) :: (x94) :: (x95) :: (x96) :: (x97) :: (x98) :: (x99) :: (x100) :: (x101) :: (x102) :: (x103) :: (x104) :: (x105) :: (x106) :: (x107) :: (x108) :: (x109) :: (x110) :: (x111) :: (x112) :: (x113) :: (x114) :: (x115) :: (x116) :: (x117) :: (x118) :: (x119) :: (x120) :: (x121) :: (x122) :: (x123) :: (x124) :: (x125) :: (x126) :: (x127) :: (x128) :: (x129) :: (x130) :: (x131) :: (x132) :: (x133) :: (x134) :: (x135) :: (x136) :: (x137) :: (x138) :: (x139) :: (x140) :: (x141) :: (x142) :: (x143) :: (x144) :: (x145) :: (x146) :: (x147) :: (x148) :: (x149) :: (x150) :: (x151) :: (x152) :: (x153) :: (u 154) :: (u 155) :: (u 156) :: (u 157) :: (u 158) :: (u 159) :: (u 160) :: (u 161) :: (u 162) :: (u 163) :: (u 164) :: (u 165) :: (u 166) :: (u 167) :: (u 168) :: (u 169) :: (u 170) :: (u 171) :: (u 172) :: (u 173) :: (u 174) :: (u 175) :: (u 176) :: (u 177) :: (u 178) :: (u 179) :: (u 180) :: (u 181) :: (u 182) :: (u 183) :: (u 184) :: (u 185) :: (u 186) :: (u 187) :: (u 188) :: (u 189) :: (u 190) :: (u 191) :: (u 192) :: (u 193) :: (u 194) :: (u 195) :: (u 196) :: (u 197) :: (u 198) :: (u 199) :: (u 200) :: (u 201) :: (u 202) :: (u 203) :: (u 204) :: (u 205) :: (u 206) :: (u 207) :: (u 208) :: (u 209) :: (u 210) :: (u 211) :: (u 212) :: (u 213) :: (u 214) :: (u 215) :: (u 216) :: (u 217) :: (u 218) :: (u 219) :: (u 220) :: (u 221) :: (u 222) :: (u 223) :: (u 224) :: (u 225) :: (u 226) :: (u 227) :: (u 228) :: (u 229) :: (u 230) :: (u 231) :: (u 232) :: (u 233) :: (u 234) :: (u 235) :: (u 236) :: (u 237) :: (u 238) :: (u 239) :: (u 240) :: (u 241) :: (u 242) :: (u 243) :: (u 244) :: (u 245) :: (u 246) :: (u 247) :: (u 248) :: (u 249) :: (u 250) :: (x251) :: (x252) :: (x253) :: (x254) :: (x255) :: (x256) :: (x257) :: (x258) :: (x259) :: (x260) :: (x261) :: (x262) :: (x263) :: (x264) :: (x265) :: (x266) :: []), []⟩ wc) :
    Code.wp Yba.prog ((Yba.f16.body.bind (fBlock 4)).getD .skip) (Exit.then KK QQ) ⟨List.toArray ((x0) :: (x1) :: (x2) :: (x3) :: (x4) :: (x5) :: (x6) :: (x7) :: (x8) :: (x9) :: (.slice (some ⟨X, xo, none⟩) n cX) :: (.slice (some ⟨Y, yo, none⟩) fin cY) :: (.slice (some ⟨CX, xo, none⟩) n cCX) :: (.slice (some ⟨CY, yo, none⟩) fin cCY) :: (.pointer (some ⟨P, 0, none⟩)) :: (.int .i64 W) :: (x16) :: (.slice (some ⟨R, 0, none⟩) K wl) :: (bt) :: (x19) :: (x20) :: (x21) :: (.int .i64 (-1)) :: (.int .i64 n) :: (.int .i64 fin) :: (.int .i64 ((fin / W * W : Nat) : Int)) :: (x26) :: (x27) :: (x28) :: (x29) :: (x30) :: (x31) :: (x32) :: (x33) :: (x34) :: (x35) :: (x36) :: (x37) :: (x38) :: (x39) :: (x40) :: (x41) :: (x42) :: (x43) :: (x44) :: (x45) :: (x46) :: (x47) :: (x48) :: (x49) :: (x50) :: (x51) :: (x52) :: (x53) :: (x54) :: (x55) :: (x56) :: (x57) :: (x58) :: (x59) :: (x60) :: (x61) :: (x62) :: (x63) :: (x64) :: (x65) :: (x66) :: (x67) :: (x68) :: (x69) :: (x70) :: (x71) :: (x72) :: (x73) :: (x74) :: (x75) :: (x76) :: (x77) :: (x78) :: (x79) :: (x80) :: (x81) :: (x82) :: (x83) :: (x84) :: (x85) :: (x86) :: (x87) :: (x88) :: (x89) :: (x90) :: (x91) :: (x92) :: (x93) :: (x94) :: (x95) :: (x96) :: (x97) :: (x98) :: (x99) :: (x100) :: (x101) :: (x102) :: (x103) :: (x104) :: (x105) :: (x106) :: (x107) :: (x108) :: (x109) :: (x110) :: (x111) :: (x112) :: (x113) :: (x114) :: (x115) :: (x116) :: (x117) :: (x118) :: (x119) :: (x120) :: (x121) :: (x122) :: (x123) :: (x124) :: (x125) :: (x126) :: (x127) :: (x128) :: (x129) :: (x130) :: (x131) :: (x132) :: (x133) :: (x134) :: (x135) :: (x136) :: (x137) :: (x138) :: (x139) :: (x140) :: (x141) :: (x142) :: (x143) :: (x144) :: (x145) :: (x146) :: (x147) :: (x148) :: (x149) :: (x150) :: (x151) :: (x152) :: (x153) :: (x154) :: (x155) :: (x156) :: (x157) :: (x158) :: (x159) :: (x160) :: (x161) :: (x162) :: (x163) :: (x164) :: (x165) :: (x166) :: (x167) :: (x168) :: (x169) :: (x170) :: (x171) :: (x172) :: (x173) :: (x174) :: (x175) :: (x176) :: (x177) :: (x178) :: (x179) :: (x180) :: (x181) :: (x182) :: (x183) :: (x184) :: (x185) :: (x186) :: (x187) :: (x188) :: (x189) :: (x190) :: (x191) :: (x192) :: (x193) :: (x194) :: (x195) :: (x196) :: (x197) :: (x198) :: (x199) :: (x200) :: (x201) :: (x202) :: (x203) :: (x204) :: (x205) :: (x206) :: (x207) :: (x208) :: (x209) :: (x210) :: (x211) :: (x212) :: (x213) :: (x214) :: (x215) :: (x216) :: (x217) :: (x218) :: (x219) :: (x220) :: (x221) :: (x222) :: (x223) :: (x224) :: (x225) :: (x226) :: (x227) :: (x228) :: (x229) :: (x230) :: (x231) :: (x232) :: (x233) :: (x234) :: (x235) :: (x236) :: (x237) :: (x238) :: (x239) :: (x240) :: (x241) :: (x242) :: (x243) :: (x244) :: (x245) :: (x246) :: (x247) :: (x248) :: (x249) :: (x250) :: (x251) :: (x252) :: (x253) :: (x254) :: (x255) :: (x256) :: (x257) :: (x258) :: (x259) :: (x260) :: (x261) :: (x262) :: (x263) :: (x264) :: (x265) :: (x266) :: []), []⟩ wr0 := by
  conv => arg 2; whnf
  go_cut [22, 23, 24, 25, 26] from 154 to 250 (fun v22 v23 v24 v25 v26 wc => ∃ (i j : Nat) (ws : List Nat) (bx by' : List Bool), v23 = .int .i64 i ∧ v24 = .int .i64 j ∧ i ≤ n ∧ j ≤ fin ∧ (i = 0 ∨ j = 0) ∧ Back (lin zx xo) (lin zy yo) n m (mk bx xo) (mk by' yo) i j ∧ PB w1 P R X Y CX CY xo yo n m W fin wl N mb lo p l c mm q mt zx zy bx0 by0 ws bx by' wc)
  case rest =>
    exact hK (fun n => ([u154, u155, u156, u157, u158, u159, u160, u161, u162, u163, u164, u165, u166, u167, u168, u169, u170, u171, u172, u173, u174, u175, u176, u177, u178, u179, u180, u181, u182, u183, u184, u185, u186, u187, u188, u189, u190, u191, u192, u193, u194, u195, u196, u197, u198, u199, u200, u201, u202, u203, u204, u205, u206, u207, u208, u209, u210, u211, u212, u213, u214, u215, u216, u217, u218, u219, u220, u221, u222, u223, u224, u225, u226, u227, u228, u229, u230, u231, u232, u233, u234, u235, u236, u237, u238, u239, u240, u241, u242, u243, u244, u245, u246, u247, u248, u249, u250] : List Value).getD (n - 154) undef) _ _ _ _ _ wc hcut
  case first =>
    clear hK
    go_wp2_with fail
    go_loopw [22, 23, 24, 25] (fun v22 v23 v24 v25 wr => ∃ (i j st : Nat) (fr : Int) (ws : List Nat) (bx by' : List Bool), j ≤ fin ∧ v22 = .int .i64 fr ∧ v23 = .int .i64 i ∧ v24 = .int .i64 j ∧ v25 = .int .i64 st ∧ st = j / W * W ∧ Btw (lin zx xo) (lin zy yo) n W fin K fr ws ∧ Back (lin zx xo) (lin zy yo) n m (mk bx xo) (mk by' yo) i j ∧ PB w1 P R X Y CX CY xo yo n m W fin wl N mb lo p l c mm q mt zx zy bx0 by0 ws bx by' wr) (fun _ v23 v24 _ _ => (intOf v23).toNat + (intOf v24).toNat)
    case atStart => exact ⟨n, fin, _, -1, ws0, bx0', by0', Nat.le_refl _, rfl, rfl, rfl, rfl, rfl, .inl rfl, hb0, hs0⟩
    case round =>
      clear hb0 hs0
      obtain ⟨i, j, st, fr, ws, bx, by', hj, rfl, rfl, rfl, rfl, hst, hbtw, hb, hs⟩ := hrel
      have hi := hb.hi
      by_cases hi0 : 0 < i
      · by_cases hj0 : 0 < j
        · obtain ⟨I, rfl⟩ : ∃ I, i = I + 1 := ⟨i - 1, by omega⟩
          obtain ⟨J, rfl⟩ : ∃ J, j = J + 1 := ⟨j - 1, by omega⟩
          have hcx := rowI_cell hs.rx (xo + I) (by omega)
          have hcy := rowI_cell hs.ry (yo + J) (by omega)
          have hcx' : wr.cell? ⟨X, xo + I, none⟩ = some (.int .i64 (lin zx xo I)) := hcx
          have hcy' : wr.cell? ⟨Y, yo + J, none⟩ = some (.int .i64 (lin zy yo J)) := hcy
          have hsd := start_dec J W hW0
          rw [← hst] at hsd
          have hstle : st ≤ J + 1 := by rw [hst]; exact Nat.div_mul_le_self _ _
          have hstlt : J + 1 < st + W := by
            rw [hst, ← mul1]
            exact Nat.lt_mul_of_div_lt (Nat.lt_succ_self _) hW0
          have HST : Hid (st = (J + 1) / W * W) := hst
          have HBTW : Hid (Btw (lin zx xo) (lin zy yo) n W fin K fr ws) := hbtw
          have HB : Hid (Back (lin zx xo) (lin zy yo) n m (mk bx xo) (mk by' yo) (I + 1) (J + 1)) := hb
          have HS : Hid (PB w1 P R X Y CX CY xo yo n m W fin wl N mb lo p l c mm q mt zx zy bx0 by0 ws bx by' wr) := hs
          have ewI : ∀ z : Int, z = (I : Int) → IntKind.i64.wrap z = (I : Int) := fun z hz => by subst hz; rw [IntKind.wrap_i64]; omega
          have ewJ : ∀ z : Int, z = (J : Int) → IntKind.i64.wrap z = (J : Int) := fun z hz => by subst hz; rw [IntKind.wrap_i64]; omega
          clear hst hbtw hb hs hcx hcy
          by_cases e : lin zx xo I = lin zy yo J
          · have HH : Hid (Back (lin zx xo) (lin zy yo) n m (mk bx xo) (mk by' yo) I J) := HB.out.hit e
            rw [e] at hcx'
            obtain ⟨gb, hgb⟩ : ∃ gb, gb = lin zy yo J := ⟨_, rfl⟩
            rw [← hgb] at hcx' hcy'
            have heq : (gb == gb) = true := by simp
            clear e hgb HB
            by_cases hlt : J < st
            · obtain ⟨h1, h2⟩ := hsd.1 hlt
              have h3 : (st : Int) - (W : Int) = ((st - W : Nat) : Int) := by omega
              have HN : Hid (st - W = J / W * W) := h1.symm
              clear hsd h1 HST
              go_upto_region 26 with fail
              go_quiet (fail)
              go_wp2_with fail
              go_roundw
              case rel => exact ⟨I, J, st - W, fr, ws, bx, by', by omega, rfl, by go_num, by go_num, by go_num, HN.out, HBTW.out, HH.out, HS.out.drewN _⟩
              case measure => simp [intOf] <;> omega
            · have HN : Hid (st = J / W * W) := (hsd.2 hlt).symm
              clear hsd HST
              go_upto_region 26 with fail
              go_quiet (fail)
              go_wp2_with fail
              go_roundw
              case rel => exact ⟨I, J, st, fr, ws, bx, by', by omega, rfl, by go_num, by go_num, rfl, HN.out, HBTW.out, HH.out, HS.out.drewN _⟩
              case measure => simp [intOf] <;> omega
          · have HE : Hid (lin zx xo I ≠ lin zy yo J) := e
            obtain ⟨fa, hfa⟩ : ∃ fa, fa = lin zx xo I := ⟨_, rfl⟩
            obtain ⟨gb, hgb⟩ : ∃ gb, gb = lin zy yo J := ⟨_, rfl⟩
            rw [← hgb] at hcy' e
            rw [← hfa] at hcx' e
            have heq : (fa == gb) = false := by rw [beq_eq_false_iff_ne]; exact e
            clear hfa hgb e
            go_upto_region 26 with fail
            go_quiet (fail)
            go_upto_if 183 with fail
            go_cut [22, 23, 24, 25, 26] from 154 to 250 (fun v22 v23 v24 v25 v26 wc => v23 = .int .i64 ((I : Int) + 1) ∧ v24 = .int .i64 ((J : Int) + 1) ∧ v25 = .int .i64 st ∧ ∃ (fr' : Int) (ws' : List Nat) (ro cro : Nat), v22 = .int .i64 fr' ∧ v26 = .slice (some ⟨R, ro, none⟩) W cro ∧ ro + W ≤ wl ∧ RowAt (lin zx xo) (lin zy yo) n W ws' ro (J + 1) ∧ Btw (lin zx xo) (lin zy yo) n W fin K fr' ws' ∧ PB w1 P R X Y CX CY xo yo n m W fin wl N mb lo p l c mm q mt zx zy bx0 by0 ws' bx by' wc)
            case first =>
              clear hcx' hcy' heq hsd
              have HKS : Hid (st + W ≤ K ∧ RowAt (lin zx xo) (lin zy yo) n W ws st st) := by
                have h1 : (J + 1) / W * W ≤ fin := by rw [← HST.out]; omega
                have h2 := HK.out ((J + 1) / W) h1
                have h3 := HS.out.kept ((J + 1) / W) h1
                rw [← HST.out] at h2 h3
                exact ⟨h2, h3⟩
              have hKst := HKS.out.1
              by_cases hjs : J + 1 = st
              · subst hjs
                have hb1 : ((J : Int) + 1 == (J : Int) + 1) = true := by simp
                have y1 : J + 1 ≤ K := by omega
                have y2 : ¬ wl = J + 1 := by omega
                have y3 : J + 1 + W ≤ wl := by omega
                go_wp2_with fail
                go_meet
                exact ⟨rfl, rfl, rfl, fr, ws, J + 1, _, rfl, rfl, by omega, HKS.out.2, HBTW.out, HS.out.drewN _⟩
              · have h2W : 2 ≤ W := by omega
                obtain rfl := HBT.out h2W
                have hBL := HBL.out
                obtain ⟨r, hr⟩ : ∃ r, r = J - st := ⟨_, rfl⟩
                obtain ⟨XX, hXX⟩ : ∃ XX, XX = r * W := ⟨_, rfl⟩
                have hXB : XX + W ≤ BL := by
                  rw [hXX, hBL, ← mul1]; exact Nat.mul_le_mul_right _ (by omega)
                have hBLb : BL ≤ 4096 := by rw [hBL]; exact Nat.le_trans (Nat.mul_le_mul (show W - 1 ≤ 64 by omega) hWb) (by omega)
                have hKB := HKW.out
                have HXX : Hid (XX = r * W) := hXX
                have HRW : Hid (∀ ws', Btw (lin zx xo) (lin zy yo) n W fin K (st : Int) ws' → RowAt (lin zx xo) (lin zy yo) n W ws' (K + XX) (J + 1)) := fun ws' h => by
                  rcases h with h | ⟨F', h1, h2⟩
                  · omega
                  · obtain rfl : st = F' := by omega
                    have := h2 r (by omega) (by omega)
                    rw [← hXX, show st + r + 1 = J + 1 by omega] at this
                    exact this
                have hbj : ((J : Int) + 1 == (st : Int)) = false := by rw [beq_eq_false_iff_ne]; omega
                clear hBL hXX
                go_upto_if 191 with fail
                go_cut [22, 23, 24, 25, 26] from 154 to 250 (fun v22 v23 v24 v25 v26 wc => v22 = .int .i64 st ∧ v23 = .int .i64 ((I : Int) + 1) ∧ v24 = .int .i64 ((J : Int) + 1) ∧ v25 = .int .i64 st ∧ ∃ (ws' : List Nat), Btw (lin zx xo) (lin zy yo) n W fin K (st : Int) ws' ∧ PB w1 P R X Y CX CY xo yo n m W fin wl N mb lo p l c mm q mt zx zy bx0 by0 ws' bx by' wc)
                case first =>
                  by_cases hfr : fr = (st : Int)
                  · subst hfr
                    have hbf : ((st : Int) != (st : Int)) = false := by simp
                    go_wp2_with fail
                    go_meet
                    exact ⟨rfl, rfl, rfl, rfl, ws, HBTW.out, HS.out.drewN _⟩
                  · have hbf : ((st : Int) != fr) = true := by simp; omega
                    obtain ⟨t, ht⟩ : ∃ t, t = st + W - 1 := ⟨_, rfl⟩
                    obtain ⟨hh, hhh⟩ : ∃ hh, hh = min t fin := ⟨_, rfl⟩
                    obtain ⟨d, hd⟩ : ∃ d, d = hh - st := ⟨_, rfl⟩
                    have HCALL : Hid (∀ (ww : World) (wsx : List Nat), PB w1 P R X Y CX CY xo yo n m W fin wl N mb lo p l c mm q mt zx zy bx0 by0 wsx bx by' ww → Calls Yba.prog 20 #[.pointer (some ⟨P, 0, none⟩), .slice (some ⟨R, K, none⟩) BL (wl - K), .slice (some ⟨R, st, none⟩) W (wl - st), .slice (some ⟨Y, yo + st, none⟩) d (cY - st)] ww fun e w' => e = .returned (.tuple #[]) ∧ ∃ ws1, Btw (lin zx xo) (lin zy yo) n W fin K (st : Int) ws1 ∧ PB w1 P R X Y CX CY xo yo n m W fin wl N mb lo p l c mm q mt zx zy bx0 by0 ws1 bx by' w') := fun ww wsx s => by
                      have hwl' := s.wl
                      have hdW : d * W ≤ BL := by rw [HBL.out]; exact Nat.mul_le_mul_right _ (by omega)
                      have hkr : RowAt (lin zx xo) (lin zy yo) n W wsx st st := by
                        have h1 : (J + 1) / W * W ≤ fin := by rw [← HST.out]; omega
                        have h3 := s.kept ((J + 1) / W) h1
                        rw [← HST.out] at h3
                        exact h3
                      refine (walk_any P (lin zx xo) (lin zy yo) n W lo p l c mm N q mb mt R K BL (wl - K) st (wl - st) Y (yo + st) d (cY - st) st zy wsx ww s.bv s.rr s.ry hRm s.lt (by omega) (by omega) (by omega) (by omega) (.inl hKst) (by omega) (fun i hi => ?_) hkr).mono ?_
                      · rw [Nat.add_assoc]
                        exact ⟨by omega, rfl, HSM.out _ (by omega)⟩
                      · rintro e w5 ⟨rfl, ws1, h⟩
                        exact ⟨rfl, ws1, .inr ⟨st, rfl, fun r hr1 hr2 => h.rows r (by omega)⟩, s.walk (k := 0) hRm (fun c' hc => HK.out c' hc) h⟩
                    have z1 : (st : Int) + (W : Int) - 1 = (t : Int) := by omega
                    have z2 : ∀ z : Int, z = (st : Int) + (W : Int) → IntKind.i64.wrap z = (st : Int) + (W : Int) := fun z hz => by subst hz; rw [IntKind.wrap_i64]; omega
                    have z3 : ∀ z : Int, z = (t : Int) → IntKind.i64.wrap z = (t : Int) := fun z hz => by subst hz; rw [IntKind.wrap_i64]; omega
                    have z4 : (if (fin : Int) < (t : Int) then (fin : Int) else (t : Int)) = (hh : Int) := by split <;> omega
                    have z4' : (if fin < t then (fin : Int) else (t : Int)) = (hh : Int) := by split <;> omega
                    have z5 : hh - st = d := by omega
                    have z6 : st ≤ hh := by omega
                    have z7 : hh ≤ cY := by omega
                    have z8 : ¬ cY = st := by omega
                    have z9 : st ≤ K := by omega
                    have z10 : ¬ wl = st := by omega
                    have z11 : st + W ≤ wl := by omega
                    have z12 : hh ≤ fin := by omega
                    have z13 : W ≤ wl - st := by omega
                    clear hr hd hhh ht
                    go_upto_region 36 with fail
                    go_region_held3 (fun w' => ∃ wsx, PB w1 P R X Y CX CY xo yo n m W fin wl N mb lo p l c mm q mt zx zy bx0 by0 wsx bx by' w') (first | exact ⟨ws, HS.out.drewN _⟩ | exact ⟨ws, (HS.out.drewN _).drewN 1⟩ | assumption | exact ⟨_, by assumption⟩)
                      (first | (go_at_call 20; obtain ⟨ws2, hs2⟩ := (by assumption : ∃ wsx, PB w1 P R X Y CX CY xo yo n m W fin wl N mb lo p l c mm q mt zx zy bx0 by0 wsx bx by' _); refine (HCALL.out _ ws2 hs2).mono ?_; rintro e w5 ⟨rfl, ws1, hbt1, hs1⟩))
                    go_wp2_with fail
                    go_meet
                    exact ⟨rfl, rfl, rfl, rfl, ws1, hbt1, hs1⟩
                case rest =>
                  obtain ⟨rfl, rfl, rfl, rfl, ws', hbt', hs'⟩ := hcut
                  have HBT' : Hid (Btw (lin zx xo) (lin zy yo) n W fin K (st : Int) ws') := hbt'
                  have HS' : Hid (PB w1 P R X Y CX CY xo yo n m W fin wl N mb lo p l c mm q mt zx zy bx0 by0 ws' bx by' wc) := hs'
                  have q1 : (J : Int) - (st : Int) = (r : Int) := by omega
                  have q1' : (J : Int) + 1 - (st : Int) - 1 = (r : Int) := by omega
                  have q2 : ∀ z : Int, z = (r : Int) * (W : Int) → IntKind.i64.wrap z = (XX : Int) := fun z hz => by
                    subst hz
                    have h0 : (r : Int) * (W : Int) = (XX : Int) := by rw [HXX.out]; simp
                    rw [h0, IntKind.wrap_i64]; omega
                  have q3 : ∀ z : Int, z = (r : Int) * (W : Int) → wrap64 z = (XX : Int) := fun z hz => (IntWalk.i64_left _).symm.trans (q2 z hz)
                  have q4 : XX ≤ BL := by omega
                  have q5 : ¬ wl - K = XX := by omega
                  have q6 : XX + W ≤ wl - K := by omega
                  have q7 : BL ≤ wl - K := by omega
                  clear hbt' hs' hr
                  go_wp2_with fail
                  go_meet
                  exact ⟨rfl, rfl, rfl, (st : Int), ws', K + XX, _, rfl, rfl, by omega, HRW.out ws' HBT'.out, HBT'.out, HS'.out⟩
            case rest =>
              obtain ⟨rfl, rfl, rfl, fr', ws', ro, cro, rfl, rfl, hro, hrow, hbt', hs'⟩ := hcut
              have hWn := hs'.bv.hW
              have hslx := hs'.lx
              have hsly := hs'.ly
              have hwl' := hs'.wl
              have hIn : I < n := by omega
              obtain ⟨u1, u2, u3, u4, u5, u6⟩ : (I : Int).tdiv 64 = ((I / 64 : Nat) : Int) ∧ (I : Int) / 64 = ((I / 64 : Nat) : Int) ∧ (I : Int).tmod 64 = ((I % 64 : Nat) : Int) ∧ (I : Int) % 64 = ((I % 64 : Nat) : Int) ∧ I % 64 < 64 ∧ I / 64 < W := ⟨by rw [Int.tdiv_eq_ediv_of_nonneg (by omega)]; omega, by omega, by rw [Int.tmod_eq_emod_of_nonneg (by omega)]; omega, by omega, by omega, by omega⟩
              have hbit : (ws'[ro + I / 64]?.getD 0).testBit (I % 64) = rb (lin zx xo) (lin zy yo) n (J + 1) I := hrow I (by omega)
              have hcr := rowV_cell 0 hs'.rr (ro + I / 64) (by omega)
              have hxw := hs'.lt.get (ro + I / 64)
              obtain ⟨x, hx⟩ : ∃ x, x = ws'[ro + I / 64]?.getD 0 := ⟨_, rfl⟩
              obtain ⟨dI, hdI⟩ : ∃ dI, dI = I / 64 := ⟨_, rfl⟩
              obtain ⟨rI, hrI⟩ : ∃ rI, rI = I % 64 := ⟨_, rfl⟩
              rw [← hx] at hbit hcr hxw
              rw [← hrI] at hbit u3 u4 u5
              rw [← hdI] at hcr u1 u2 u6
              have hcr' : wc.cell? ⟨R, ro + dI, none⟩ = some (.int .u64 (x : Int)) := hcr
              have hand : bits .and .u64 ((x : Int) / 2 ^ rI) 1 = (((x.testBit rI).toNat : Nat) : Int) := by
                rw [← bit_nat, show (x : Int) / 2 ^ rI = ((x / 2 ^ rI : Nat) : Int) by simp]
                exact u64_and_nat _ 1 (Nat.lt_of_le_of_lt (Nat.div_le_self _ _) hxw) (by decide)
              have HBT' : Hid (Btw (lin zx xo) (lin zy yo) n W fin K fr' ws') := hbt'
              have hccx := rowV_cell false hs'.cx (xo + I) (by omega)
              have hfcx := rowV_frozen hs'.cx (xo + I)
              have hccy := rowV_cell false hs'.cy (yo + J) (by omega)
              have hfcy := rowV_frozen hs'.cy (yo + J)
              have hRX : R ≠ CX := row_ne hs'.rr hs'.cx (by decide)
              have hRY : R ≠ CY := row_ne hs'.rr hs'.cy (by decide)
              have HX : Hid (∀ k, PB w1 P R X Y CX CY xo yo n m W fin wl N mb lo p l c mm q mt zx zy bx0 by0 ws' (bx.set (xo + I) true) by' ((wc.drewN k).setCell ⟨CX, xo + I, none⟩ (.bool true))) := fun k => hs'.markX hne hIn k
              have HY : Hid (∀ k, PB w1 P R X Y CX CY xo yo n m W fin wl N mb lo p l c mm q mt zx zy bx0 by0 ws' bx (by'.set (yo + J) true) ((wc.drewN k).setCell ⟨CY, yo + J, none⟩ (.bool true))) := fun k => hs'.markY hne (by omega) k
              have HBX : Hid (rb (lin zx xo) (lin zy yo) n (J + 1) I = true → Back (lin zx xo) (lin zy yo) n m (mk (bx.set (xo + I) true) xo) (mk by' yo) I (J + 1)) := fun h => HB.out.markS (L_bit1 hIn h) (mk_set (by omega)).1 (mk_set (by omega)).2
              have HBY : Hid (rb (lin zx xo) (lin zy yo) n (J + 1) I = false → Back (lin zx xo) (lin zy yo) n m (mk bx xo) (mk (by'.set (yo + J) true) yo) (I + 1) J) := fun h => HB.out.markL (L_bit0 hIn h HE.out) (mk_set (by omega)).1 (mk_set (by omega)).2
              have HBIT : Hid (x.testBit rI = rb (lin zx xo) (lin zy yo) n (J + 1) I) := hbit
              clear hs' hbt' hrow hbit hcr hx hdI hrI HS HB HBTW hWn hcx' hcy' heq
              cases hbb : x.testBit rI with
              | true =>
                rw [hbb] at hand
                have hand' : bits .and .u64 ((x : Int) / 2 ^ rI) 1 = 1 := hand
                have HBX' := HBX.out (HBIT.out.symm.trans hbb)
                have HB2 : Hid (Back (lin zx xo) (lin zy yo) n m (mk (bx.set (xo + I) true) xo) (mk by' yo) I (J + 1)) := HBX'
                clear hand HBX HBY HBIT HBX' hsd
                go_wp2_with fail
                go_roundw
                case rel => exact ⟨I, J + 1, st, fr', ws', _, by', hj, rfl, by go_num, by go_num, rfl, HST.out, HBT'.out, HB2.out, HX.out 0⟩
                case measure => simp [intOf] <;> omega
              | false =>
                rw [hbb] at hand
                have hand' : bits .and .u64 ((x : Int) / 2 ^ rI) 1 = 0 := hand
                have HBY' := HBY.out (HBIT.out.symm.trans hbb)
                have HB2 : Hid (Back (lin zx xo) (lin zy yo) n m (mk bx xo) (mk (by'.set (yo + J) true) yo) (I + 1) J) := HBY'
                clear hand HBX HBY HBIT HBY'
                by_cases hlt : J < st
                · obtain ⟨h1, h2⟩ := hsd.1 hlt
                  have h3 : (st : Int) - (W : Int) = ((st - W : Nat) : Int) := by omega
                  have HN : Hid (st - W = J / W * W) := h1.symm
                  clear hsd h1 HST
                  go_wp2_with fail
                  go_roundw
                  case rel => exact ⟨I + 1, J, st - W, fr', ws', bx, _, by omega, rfl, by go_num, by go_num, by go_num, HN.out, HBT'.out, HB2.out, HY.out 0⟩
                  case measure => simp [intOf] <;> omega
                · have HN : Hid (st = J / W * W) := (hsd.2 hlt).symm
                  clear hsd HST
                  go_wp2_with fail
                  go_roundw
                  case rel => exact ⟨I + 1, J, st, fr', ws', bx, _, by omega, rfl, by go_num, by go_num, rfl, HN.out, HBT'.out, HB2.out, HY.out 0⟩
                  case measure => simp [intOf] <;> omega
        · obtain rfl : j = 0 := by omega
          have hf1 : decide ((0 : Int) < (i : Int)) = true := by simp; omega
          go_wp2_with fail
          go_meet
          exact ⟨i, 0, ws, bx, by', rfl, rfl, hi, hj, .inr rfl, hb, hs⟩
      · obtain rfl : i = 0 := by omega
        go_wp2_with fail
        go_meet
        exact ⟨0, j, ws, bx, by', rfl, rfl, Nat.zero_le _, hj, .inl rfl, hb, hs⟩

end Go.Proofs.Ybulkdwba.lawB
