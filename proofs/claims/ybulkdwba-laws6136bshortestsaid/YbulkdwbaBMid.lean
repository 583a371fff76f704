/-
  FOR 'Rows.LawS6136BShortestSaid': compareByBits: from keep on
-/
import Derived.Test.YbulkdwbaBEnd
import Derived.Deep.CutBlock
import Derived.Deep.CutRange
import Derived.Deep.DeepCutAuto
import Derived.Deep.RegionHeld3
namespace Go.Proofs.Ybulkdwba.lawB
open Go.ChangeShapes Go.WideShapes Go.ChangeAt Go.RowKit Go.Deep Go.Maps
open lawC (rowI rowI_cell rowI_frozen rowI_set made_rowI info3)
set_option linter.unusedVariables false
theorem BV.below {w w' : World} {P : Nat} {f : Nat → Int} {n W : Nat} {lo : Int} {dv sv : Value} {N : Nat} {q : Int → Option Nat} {mb : Nat} {mt : List Nat} (b : BV w P f n W lo dv sv N q mb mt) (hb : Below w.heap.size w w') : BV w' P f n W lo dv sv N q mb mt :=
  ⟨(hb.block P (lt_of_some b.bx)).trans b.bx, b.ix, b.iv.below hb, b.slo, (hb.block mb (lt_of_some b.rm)).trans b.rm, b.ok, b.hW, b.hn0, b.hn⟩
theorem SideF.keep {h h' : World} {X Y CX CY xo yo n m : Nat} {zx zy : List Int} {bx by' : List Bool} (s : SideF h X Y CX CY xo yo n m zx zy bx by') (hO : ∀ (α : Type) (u : α → Value) (t : TypeId) (xs : List α) (b : Nat), t = 3 ∨ t = 4 → h.heap[b]? = some (rowV u t xs) → h'.heap[b]? = some (rowV u t xs)) : SideF h' X Y CX CY xo yo n m zx zy bx by' :=
  ⟨hO _ _ _ _ _ (.inl rfl) (rowI_eq zx ▸ s.rx), hO _ _ _ _ _ (.inl rfl) (rowI_eq zy ▸ s.ry), hO _ _ _ _ _ (.inr rfl) s.cx, hO _ _ _ _ _ (.inr rfl) s.cy, s.lx, s.ly, s.ne, s.hx, s.hy, s.hn0, s.hm0, s.bx4, s.by4, s.sx, s.sy, s.fx, s.fy⟩
theorem SideF.below {h h' : World} {X Y CX CY xo yo n m : Nat} {zx zy : List Int} {bx by' : List Bool} (s : SideF h X Y CX CY xo yo n m zx zy bx by') (hb : Below h.heap.size h h') : SideF h' X Y CX CY xo yo n m zx zy bx by' :=
  s.keep (fun α u t xs b _ hb' => (hb.block b (lt_of_some hb')).trans hb')
theorem SideF.other {h h' : World} {X Y CX CY xo yo n m : Nat} {zx zy : List Int} {bx by' : List Bool} (s : SideF h X Y CX CY xo yo n m zx zy bx by') {g : Nat} {cs : Array Value} {t' : TypeId} (hg : h.heap[g]? = some (.cells cs t')) (h3 : t' ≠ 3) (h4 : t' ≠ 4) (hw : h.grownBy h' (some g)) : SideF h' X Y CX CY xo yo n m zx zy bx by' :=
  s.keep (fun α u t xs b ht hb' => (hw.block b (lt_of_some hb') (by
    intro e; cases e; rw [hg] at hb'; simp [rowV] at hb'
    rcases ht with ht | ht
    · exact h3 (hb'.2.trans ht)
    · exact h4 (hb'.2.trans ht))).trans hb')
theorem fill_row {f g : Nat → Int} {n W : Nat} {ws : List Nat} (h : ∀ t, t < W → ws[t]?.getD 0 = 18446744073709551615) : RowAt f g n W ws 0 0 := fun k hk => by
  unfold bitAt
  rw [rb_zero, Nat.zero_add, h (k / 64) (by omega), show (18446744073709551615 : Nat) = 2 ^ 64 - 1 by rfl, Nat.testBit_two_pow_sub_one]
  simp; omega
set_option maxRecDepth 100000 in
/-- grow, as compareByBits calls it: its row is old, or new. -/
theorem grow_in (B O : Nat) (rp : Option Addr) (rl rc n : Nat) (w : World) (hn0 : 0 < n) (hn : n ≤ 1000000) (hr : RowsOk B w (.slice rp rl rc)) (hO : ∀ R', rp = some ⟨R', 0, none⟩ → R' < O) (hB : B ≤ w.heap.size) :
    Calls Yba.prog 18 #[.slice rp rl rc, .int .i64 n] w fun e w' => ∃ R ws, e = .returned (.slice (some ⟨R, 0, none⟩) n ws.length) ∧ n ≤ ws.length ∧ ws.length ≤ 1000000 ∧ B ≤ R ∧ w'.heap[R]? = some (rowU ws) ∧ AllW ws ∧ Below w.heap.size w w' ∧ (R = w.heap.size ∨ R < O) := by
  have hmk := make_words n hn
  have hnew : (w.alloc (rowU (List.replicate n 0))).heap[w.heap.size]? = some (rowU (List.replicate n 0)) := heap_alloc_new _ _
  have hz : AllW (List.replicate n 0) := fun x hx => by rw [(List.mem_replicate.1 hx).2]; decide
  rcases hr with hr | ⟨R, len, ws, hr, hl, hwl, hBR, hR, hlt⟩
  · obtain ⟨rfl, rfl, rfl⟩ : rp = none ∧ rl = 0 ∧ rc = 0 := by simpa using hr
    go_enter Yba.func18, Yba.ntmps18
    go_wp2_with fail
    go_ret
    exact ⟨w.heap.size, List.replicate n 0, by rw [List.length_replicate]; rfl, by simp, by simp; omega, hB, hnew, hz, (Below.refl _ _).alloc (Nat.le_refl _) _, .inl rfl⟩
  · obtain ⟨rfl, rfl, rfl⟩ : rp = some ⟨R, 0, none⟩ ∧ rl = len ∧ rc = ws.length := by simpa using hr
    have hRO := hO R rfl
    clear hr hO
    by_cases hc : ws.length < n
    · go_enter Yba.func18, Yba.ntmps18
      go_wp2_with fail
      go_ret
      exact ⟨w.heap.size, List.replicate n 0, by rw [List.length_replicate]; rfl, by simp, by simp; omega, hB, hnew, hz, (Below.refl _ _).alloc (Nat.le_refl _) _, .inl rfl⟩
    · have hc' : n ≤ ws.length := by omega
      go_enter Yba.func18, Yba.ntmps18
      go_wp2_with fail
      go_ret
      exact ⟨R, ws, rfl, hc', hwl, hBR, hR, hlt, Below.refl _ _, .inr hRO⟩
theorem RowsOk.shape {B : Nat} {w : World} {rv : Value} (r : RowsOk B w rv) : ∃ (rp : Option Addr) (rl rc : Nat), rv = .slice rp rl rc ∧ ∀ R', rp = some ⟨R', 0, none⟩ → R' < w.heap.size := by
  rcases r with r | ⟨R, len, ws, e, h1, h2, h3, h4, h5⟩
  · exact ⟨none, 0, 0, r, fun R' h => by simp at h⟩
  · exact ⟨_, _, _, e, fun R' h => by simp at h; subst h; exact lt_of_some h4⟩

set_option maxRecDepth 100000 in
set_option maxHeartbeats 4000000 in
theorem cbb_mid {x0 x1 x2 x3 x4 x5 x6 x7 x8 x9 x16 x19 x20 x21 x22 x23 x24 x25 x26 x27 x28 x29 x30 x31 x32 x33 x34 x35 x36 x37 x38 x39 x40 x41 x42 x43 x44 x45 x46 x47 x48 x49 x50 x51 x52 x53 x54 x55 x56 x57 x58 x59 x60 x61 x62 x63 x64 x65 x66 x67 x68 x69 x70 x71 x72 x73 x74 x75 x76 x77 x78 x79 x80 x81 x82 x83 x84 x85 x86 x87 x88 x89 x90 x91 x92 x93 x94 x95 x96 x97 x98 x99 x100 x101 x102 x103 x104 x105 x106 x107 x108 x109 x110 x111 x112 x113 x114 x115 x116 x117 x118 x119 x120 x121 x122 x123 x124 x125 x126 x127 x128 x129 x130 x131 x132 x133 x134 x135 x136 x137 x138 x139 x140 x141 x142 x143 x144 x145 x146 x147 x148 x149 x150 x151 x152 x153 x154 x155 x156 x157 x158 x159 x160 x161 x162 x163 x164 x165 x166 x167 x168 x169 x170 x171 x172 x173 x174 x175 x176 x177 x178 x179 x180 x181 x182 x183 x184 x185 x186 x187 x188 x189 x190 x191 x192 x193 x194 x195 x196 x197 x198 x199 x200 x201 x202 x203 x204 x205 x206 x207 x208 x209 x210 x211 x212 x213 x214 x215 x216 x217 x218 x219 x220 x221 x222 x223 x224 x225 x226 x227 x228 x229 x230 x231 x232 x233 x234 x235 x236 x237 x238 x239 x240 x241 x242 x243 x244 x245 x246 x247 x248 x249 x250 x251 x252 x253 x254 x255 x256 x257 x258 x259 x260 x261 x262 x263 x264 x265 x266 : Value} (w1 : World) (P R X Y CX CY xo yo n m W wl N mb : Nat) (lo : Int) (p : Option Addr) (l c : Nat) (mm : Option Nat) (q : Int → Option Nat) (mt : List Nat) (zx zy : List Int) (bx by0 : List Bool) (hn4 : n ≤ 4096) (hm4 : m ≤ 4096) (POST : Ending → World → Prop) (HFIN : Hid (∀ fin ws bx1 by1 hf, PB w1 P R X Y CX CY xo yo n m W fin wl N mb lo p l c mm q mt zx zy bx by0 ws bx1 by1 hf → Back (lin zx xo) (lin zy yo) n m (mk bx1 xo) (mk by1 yo) 0 0 → POST (.returned (.tuple #[])) hf)) (K BL cX cY cCX cCY : Nat) (bt : Value) (ws1 : List Nat) (wF : World) (hW0 : 0 < W) (hWb : W ≤ 64) (hwl : wl ≤ 1000000) (hRm : R ≠ mb) (hcY : m ≤ cY) (hcCY : m ≤ cCY) (HKE : Hid (K = (m / W + 1) * W)) (HBL : Hid (BL = (W - 1) * W)) (t3 : K ≤ wl) (t4 : K + BL ≤ wl) (HBT : Hid (2 ≤ W → bt = .slice (some ⟨R, K, none⟩) BL (wl - K)))
    (bvF : BV wF P (lin zx xo) n W lo (.slice p l c) (.map mm) N q mb mt) (sdF : SideF wF X Y CX CY xo yo n m zx zy bx by0) (r1 : wF.heap[R]? = some (rowU ws1)) (r2 : ws1.length = wl) (r3 : AllW ws1) (r4 : RowAt (lin zx xo) (lin zy yo) n W ws1 0 0) (HKF : Hid (Keeps (fun k => k = R ∨ k = CX ∨ k = CY) w1 wF)) :
    Code.wp Yba.prog ((Yba.f16.body.bind (fTail 0)).getD .skip) (bodyPost Yba.prog Yba.f16 POST) ⟨List.toArray ((x0) :: (x1) :: (x2) :: (x3) :: (x4) :: (x5) :: (x6) :: (x7) :: (x8) :: (x9) :: (.slice (some ⟨X, xo, none⟩) n cX) :: (.slice (some ⟨Y, yo, none⟩) m cY) :: (.slice (some ⟨CX, xo, none⟩) n cCX) :: (.slice (some ⟨CY, yo, none⟩) m cCY) :: (.pointer (some ⟨P, 0, none⟩)) :: (.int .i64 W) :: (x16) :: (.slice (some ⟨R, 0, none⟩) K wl) :: (bt) :: (x19) :: (x20) :: (x21) :: (x22) :: (x23) :: (x24) :: (x25) :: (x26) :: (x27) :: (x28) :: (x29) :: (x30) :: (x31) :: (x32) :: (x33) :: (x34) :: (x35) :: (x36) :: (x37) :: (x38) :: (x39) :: (x40) :: (x41) :: (x42) :: (x43) :: (x44) :: (x45) :: (x46) :: (x47) :: (x48) :: (x49) :: (x50) :: (x51) :: (x52) :: (x53) :: (x54) :: (x55) :: (x56) :: (x57) :: (x58) :: (x59) :: (x60) :: (x61) :: (x62) :: (x63) :: (x64) :: (x65) :: (x66) :: (x67) :: (x68) :: (x69) :: (x70) :: (x71) :: (x72) :: (x73) :: (x74) :: (x75) :: (x76) :: (x77) :: (x78) :: (x79) :: (x80) :: (x81) :: (x82) :: (x83) :: (x84) :: (x85) :: (x86) :: (x87) :: (x88) :: (x89) :: (x90) :: (x91) :: (x92) :: (x93) :: (x94) :: (x95) :: (x96) :: (x97) :: (x98) :: (x99) :: (x100) :: (x101) :: (x102) :: (x103) :: (x104) :: (x105) :: (x106) :: (x107) :: (x108) :: (x109) :: (x110) :: (x111) :: (x112) :: (x113) :: (x114) :: (x115) :: (x116) :: (x117) :: (x118) :: (x119) :: (x120) :: (x121) :: (x122) :: (x123) :: (x124) :: (x125) :: (x126) :: (x127) :: (x128) :: (x129) :: (x130) :: (x131) :: (x132) :: (x133) :: (x134) :: (x135) :: (x136) :: (x137) :: (x138) :: (x139) :: (x140) :: (x141) :: (x142) :: (x143) :: (x144) :: (x145) :: (x146) :: (x147) :: (x148) :: (x149) :: (x150) :: (x151) :: (x152) :: (x153) :: (x154) :: (x155) :: (x156) :: (x157) :: (x158) :: (x159) :: (x160) :: (x161) :: (x162) :: (x163) :: (x164) :: (x165) :: (x166) :: (x167) :: (x168) :: (x169) :: (x170) :: (x171) :: (x172) :: (x173) :: (x174) :: (x175) :: (x176) :: (x177) :: (x178) :: (x179) :: (x180) :: (x181) :: (x182) :: (x183) :: (x184) :: (x185) :: (x186) :: (x187) :: (x188) :: (x189) :: (x190) :: (x191) :: (x192) :: (x193) :: (x194) :: (x195) :: (x196) :: (x197) :: (x198) :: (x199) :: (x200) :: (x201) :: (x202) :: (x203) :: (x204) :: (x205) :: (x206) :: (x207) :: (x208) :: (x209) :: (x210) :: (x211) :: (x212) :: (x213) :: (x214) :: (x215) :: (x216) :: (x217) :: (x218) :: (x219) :: (x220) :: (x221) :: (x222) :: (x223) :: (x224) :: (x225) :: (x226) :: (x227) :: (x228) :: (x229) :: (x230) :: (x231) :: (x232) :: (x233) :: (x234) :: (x235) :: (x236) :: (x237) :: (x238) :: (x239) :: (x240) :: (x241) :: (x242) :: (x243) :: (x244) :: (x245) :: (x246) :: (x247) :: (x248) :: (x249) :: (x250) :: (x251) :: (x252) :: (x253) :: (x254) :: (x255) :: (x256) :: (x257) :: (x258) :: (x259) :: (x260) :: (x261) :: (x262) :: (x263) :: (x264) :: (x265) :: (x266) :: []), []⟩ wF := by
  conv => arg 2; whnf
  have hxl : xo + n ≤ bx.length := by rw [sdF.lx]; exact sdF.hx
  have hyl : yo + m ≤ by0.length := by rw [sdF.ly]; exact sdF.hy
  have HSM : Hid (∀ k, k < m → Small (lin zy yo k)) := fun k hk => by
    have := sdF.hy
    exact sdF.sy _ (by unfold lin; rw [List.getElem?_eq_getElem (by omega)]; simp)
  have HKEEP : Hid (Calls Yba.prog 19 #[.pointer (some ⟨P, 0, none⟩), .slice (some ⟨R, 0, none⟩) K wl, bt, .slice (some ⟨Y, yo, none⟩) m cY] wF (KeepP (lin zx xo) (lin zy yo) n W m wF R ws1)) := by
    have hbl := HBL.out
    refine keep_any P (lin zx xo) (lin zy yo) n W lo p l c mm N q mb mt R K wl Y yo m cY bt zy ws1 wF bvF r1 sdF.ry hRm r3 (by omega) hm4 HKE.out (by rw [← hbl]; omega) t3 (fun h => ⟨wl - K, ?_, ?_⟩) hcY (fun k hk => ⟨by have := sdF.hy; omega, rfl, HSM.out k hk⟩) r4
    · rw [← hbl]; exact HBT.out h
    · rw [← hbl]; omega
  have HBVF : Hid (BV wF P (lin zx xo) n W lo (.slice p l c) (.map mm) N q mb mt) := bvF
  have HSDF : Hid (SideF wF X Y CX CY xo yo n m zx zy bx by0) := sdF
  have HR4 : Hid (RowAt (lin zx xo) (lin zy yo) n W ws1 0 0) := r4
  have HR1 : Hid (wF.heap[R]? = some (rowU ws1)) := r1
  clear bvF sdF r4 r1
  go_upto_if 127 with (go_at_call 19; refine HKEEP.out.mono ?_; rintro e wK ⟨fin, ws2, rfl, k1, k2, k3, k4, k5, k6, k7⟩)
  have bvK : BV wK P (lin zx xo) n W lo (.slice p l c) (.map mm) N q mb mt := HBVF.out.words HR1.out hRm k7
  have sdK : SideF wK X Y CX CY xo yo n m zx zy bx by0 := HSDF.out.other HR1.out (by decide) (by decide) k7
  have HKK : Hid (Keeps (fun k => k = R ∨ k = CX ∨ k = CY) w1 wK) := HKF.out.trans (Keeps.grown k7 (.inl rfl))
  have HKEPT : Hid (∀ c', c' * W ≤ fin → RowAt (lin zx xo) (lin zy yo) n W ws2 (c' * W) (c' * W)) := k6
  have HLL : Hid (L (lin zx xo) (lin zy yo) n fin = L (lin zx xo) (lin zy yo) n m) := by
    by_cases h : fin < m
    · have := k2 h; exact this.trans (L_full this k1).symm
    · obtain rfl : fin = m := by omega
      rfl
  have HBVK : Hid (BV wK P (lin zx xo) n W lo (.slice p l c) (.map mm) N q mb mt) := bvK
  have HSDK : Hid (SideF wK X Y CX CY xo yo n m zx zy bx by0) := sdK
  have HWS2 : Hid (ws2.length = wl ∧ AllW ws2 ∧ wK.heap[R]? = some (rowU ws2)) := ⟨by rw [k4]; exact r2, k5, k3⟩
  have hcyK := sdK.cy
  clear HKEEP HBVF HSDF bvK sdK HR1 HR4 r2 r3 k2 k3 k4 k5 k6 k7
  go_cut [11, 13, 21] (fun v11 v13 v21 wc => v11 = .slice (some ⟨Y, yo, none⟩) fin cY ∧ v13 = .slice (some ⟨CY, yo, none⟩) fin cCY ∧ ∃ by1, wc.heap[CY]? = some (rowB by1) ∧ by1.length = by0.length ∧ (∀ t, yo + fin ≤ t → t < yo + m → by1[t]?.getD false = true) ∧ (∀ t, (t < yo + fin ∨ yo + m ≤ t) → by1[t]? = by0[t]?) ∧ wK.grownBy wc (some CY))
  case first =>
    by_cases hfm : fin < m
    · have y1 : fin ≤ cY := by omega
      have y2 : fin ≤ cCY := by omega
      go_upto_block 2 with fail
      refine part2 Y CY yo m cY cCY fin by0 wK hm4 k1 hyl hcyK _ _ ?_
      intro u' v21 wT hcut
      obtain ⟨by1, q1, q2, q3, q4, q5⟩ := hcut
      have HQ : Hid (∀ k, (wT.drewN k).heap[CY]? = some (rowB by1) ∧ by1.length = by0.length ∧ (∀ t, yo + fin ≤ t → t < yo + m → by1[t]?.getD false = true) ∧ (∀ t, (t < yo + fin ∨ yo + m ≤ t) → by1[t]? = by0[t]?) ∧ wK.grownBy (wT.drewN k) (some CY)) := fun k => ⟨q1, q2, q3, q4, grown_drewN q5 k⟩
      clear q1 q2 q3 q4 q5
      go_upto_region 21 with fail
      go_quiet (fail)
      go_wp2_with fail
      go_meet
      exact ⟨rfl, rfl, by1, HQ.out _⟩
    · obtain rfl : fin = m := by omega
      go_wp2_with fail
      go_meet
      exact ⟨rfl, rfl, by0, hcyK, rfl, fun t h1 h2 => absurd h1 (by omega), fun _ _ => rfl, World.grownBy.refl _ _⟩
  case rest =>
    obtain ⟨rfl, rfl, by1, q1, q2, q3, q4, q5⟩ := hcut
    have sdK := HSDK.out
    have hRC : R ≠ CY := row_ne HWS2.out.2.2 sdK.cy (by decide)
    have hO : ∀ {b : Nat} {o : Obj}, wK.heap[b]? = some o → b ≠ CY → wc.heap[b]? = some o := fun {b o} hb hne => (q5.block b (lt_of_some hb) (by intro e; cases e; exact hne rfl)).trans hb
    have HPB : Hid (PB w1 P R X Y CX CY xo yo n m W fin wl N mb lo p l c mm q mt zx zy bx by0 ws2 bx by1 wc) := ⟨HBVK.out.grown sdK.cy (by decide) (bvP_ne HBVK.out sdK.cy (by decide)) (row_ne HBVK.out.rm sdK.cy (by decide)).symm q5, hO HWS2.out.2.2 hRC, HWS2.out.1, HWS2.out.2.1, HKEPT.out, hO sdK.rx (row_ne (rowI_eq zx ▸ sdK.rx) sdK.cy (by decide)), hO sdK.ry (row_ne (rowI_eq zy ▸ sdK.ry) sdK.cy (by decide)), hO sdK.cx sdK.ne, q1, rfl, q2, fun _ _ => rfl, fun t ht => q4 t (by omega), HKK.out.trans (Keeps.grown q5 (.inr (.inr rfl)))⟩
    have HBK : Hid (Back (lin zx xo) (lin zy yo) n m (mk bx xo) (mk by1 yo) n fin) := Back.start k1 sdK.fx (fun k hk => by
        have := sdK.fy k (by omega)
        unfold mk at this ⊢
        rw [q4 _ (.inl (by omega))]; exact this) (fun k h1 h2 => by unfold mk; exact q3 _ (by omega) (by omega)) HLL.out
    have hne := sdK.ne
    have hzx := sdK.hx
    have hzy := sdK.hy
    obtain ⟨fq, hfq⟩ : ∃ fq, fq = fin / W := ⟨_, rfl⟩
    obtain ⟨fs, hfs⟩ : ∃ fs, fs = fin / W * W := ⟨_, rfl⟩
    have hfsl : fs ≤ fin := by rw [hfs]; exact Nat.div_mul_le_self _ _
    have hfin4 : fin ≤ 4096 := by omega
    have hW1 : ¬ (W : Int) = 0 := by omega
    have hfql : fq ≤ 4096 := by rw [hfq]; exact Nat.le_trans (Nat.div_le_self _ _) (by omega)
    have a1 : (fin : Int).tdiv (W : Int) = (fq : Int) := by rw [Int.tdiv_eq_ediv_of_nonneg (by omega), hfq]; simp
    have a1' : (fin : Int) / (W : Int) = (fq : Int) := by rw [hfq]; simp
    have a2 : ((W : Int) == 0) = false := by rw [beq_eq_false_iff_ne]; omega
    have p1 : (fq : Int) * (W : Int) = (fs : Int) := by rw [hfs, hfq]; simp
    have a7 : ∀ z : Int, z = (fs : Int) → IntKind.i64.wrap z = (fs : Int) := fun z hz => by subst hz; rw [IntKind.wrap_i64]; omega
    have b7 : ∀ z : Int, z = (fs : Int) → wrap64 z = (fs : Int) := fun z hz => (IntWalk.i64_left _).symm.trans (a7 z hz)
    have HK : Hid (∀ c', c' * W ≤ fin → c' * W + W ≤ K) := fun c' hc => by
      have h1 : c' ≤ m / W := (Nat.le_div_iff_mul_le hW0).2 (by omega)
      have h2 := Nat.mul_le_mul_right W (Nat.succ_le_succ h1)
      rw [Nat.succ_eq_add_one, mul1] at h2
      have h3 := HKE.out
      have h4 : (m / W).succ * W = (m / W + 1) * W := rfl
      omega
    clear q1 q2 q3 q4 q5 hO hRC sdK HSDK HBVK HWS2 HKEPT HKK HLL hfq hcyK
    have HFS : Hid (fs = fin / W * W) := hfs
    clear hfs
    go_upto_block 4 with fail
    rename_i KB haB
    have hfs := HFS.out
    subst hfs
    refine part4 w1 P R X Y CX CY xo yo n m W fin wl N mb lo p l c mm q mt zx zy bx by0 hne hn4 hm4 hxl hyl k1 K cX cY cCX cCY bt ws2 bx by1 wc hW0 hWb hwl hzx hzy hRm (by omega) HSM HK BL HBL t4 t3 HBT HBK.out HPB.out _ _ ?_
    intro u v22 v23 v24 v25 v26 wG hcut
    obtain ⟨i, j, ws3, bx2, by2, rfl, rfl, hi, hj, hij, hb, hs⟩ := hcut
    exact haB _ _ (cbb_end w1 P R X Y CX CY xo yo n m W fin wl N mb lo p l c mm q mt zx zy bx by0 hne hn4 hm4 hxl hyl k1 POST (HFIN.out fin) ws3 bx2 by2 i j cCX cCY wG hi hj hij hb hs)

end Go.Proofs.Ybulkdwba.lawB
