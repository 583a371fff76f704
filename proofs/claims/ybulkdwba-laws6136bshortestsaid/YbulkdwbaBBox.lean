/-
  FOR 'Rows.LawS6136BShortestSaid': compareByBits: its contract.
-/
import Derived.Test.YbulkdwbaBMid
namespace Go.Proofs.Ybulkdwba.lawB
open Go.ChangeShapes Go.WideShapes Go.ChangeAt Go.RowKit Go.Deep Go.Maps
open lawC (rowI rowI_cell rowI_frozen rowI_set made_rowI info3)
set_option linter.unusedVariables false

theorem Swp.set {A B CA CB : Nat} {za zb : List Int} {ca cb : List Bool} {aLo aHi bLo bHi X Y CX CY xo yo n m : Nat} {zx zy : List Int} {bx by' : List Bool} (s : Swp A B CA CB za zb ca cb aLo aHi bLo bHi X Y CX CY xo yo n m zx zy bx by') (D k : Nat) (h : k = D ∨ k = CA ∨ k = CB) : k = D ∨ k = CX ∨ k = CY := by
  rcases s with ⟨rfl, rfl, rfl, rfl, _⟩ | ⟨rfl, rfl, rfl, rfl, _⟩
  · exact h
  · rcases h with h | h | h <;> simp [h]
set_option maxRecDepth 100000 in
set_option maxHeartbeats 4000000 in
theorem cbb_any (w0 : World) (D A B CA CB na nb : Nat) (za zb : List Int) (v4 v5 v6 v8 : Value) (ca cb : List Bool) (aLo aHi bLo bHi : Nat) (w : World)
    (hna : za.length = na) (hnb : zb.length = nb) (hna4 : na ≤ 4096) (hnb4 : nb ≤ 4096) (hsa : ∀ z ∈ za, Small z) (hsb : ∀ z ∈ zb, Small z) (hD0 : D < w0.heap.size) (hA0 : A < w0.heap.size) (hB0 : B < w0.heap.size) (hCA0 : CA < w0.heap.size) (hCB0 : CB < w0.heap.size) (hCC : CA ≠ CB)
    (h1 : aLo < aHi) (h2 : aHi ≤ na) (h3 : bLo < bHi) (h4 : bHi ≤ nb) (hd : Dif w0 D A B CA CB na nb za zb v4 v5 v6 v8 ca cb w)
    (fa : ∀ t, aLo ≤ t → t < aHi → ca[t]?.getD false = false) (fb : ∀ t, bLo ≤ t → t < bHi → cb[t]?.getD false = false) :
    Calls Yba.prog 16 #[.pointer (some ⟨D, 0, none⟩), .int .i64 aLo, .int .i64 aHi, .int .i64 bLo, .int .i64 bHi] w (CbbP w0 D A B CA CB na nb za zb v4 v5 v6 v8 ca cb aLo aHi bLo bHi) := by
  obtain ⟨rv, hbx, hrv⟩ := hd.bx
  obtain ⟨d0, d1, d2, d3, d7, df⟩ := boxD_cell hbx
  have HDN : Hid (∀ k, Dif w0 D A B CA CB na nb za zb v4 v5 v6 v8 ca cb (w.drewN k)) := fun k => hd.drewN k
  have hla := hd.la
  have hlb := hd.lb
  have HFACT : Hid (∀ k X Y CX CY xo yo n m zx zy bx by', Swp A B CA CB za zb ca cb aLo aHi bLo bHi X Y CX CY xo yo n m zx zy bx by' → SideF (w.drewN k) X Y CX CY xo yo n m zx zy bx by') := fun k X Y CX CY xo yo n m zx zy bx by' s => s.facts (hd.drewN k) hna hnb hna4 hnb4 hsa hsb hCC h1 h2 h3 h4 fa fb
  obtain ⟨nA, hnA⟩ : ∃ nA, nA = aHi - aLo := ⟨_, rfl⟩
  obtain ⟨nB, hnB⟩ : ∃ nB, nB = bHi - bLo := ⟨_, rfl⟩
  have HNA : Hid (nA = aHi - aLo) := hnA
  have HNB : Hid (nB = bHi - bLo) := hnB
  have x1 : aHi - aLo = nA := hnA.symm
  have x2 : bHi - bLo = nB := hnB.symm
  have x3 : aLo ≤ aHi := by omega
  have x4 : bLo ≤ bHi := by omega
  have x5 : ¬ na = aLo := by omega
  have x6 : ¬ nb = bLo := by omega
  have HZ : Hid (za.length = na ∧ zb.length = nb) := ⟨hna, hnb⟩
  have x7 : nA ≤ 4096 := by omega
  have x8 : nB ≤ 4096 := by omega
  clear hnA hnB hd fa fb hsa hsb hna hnb hrv
  go_enter Yba.func16, Yba.ntmps16
  go_upto_region 0 with fail
  go_quiet (fail)
  go_upto_region 1 with fail
  go_quiet (fail)
  go_upto_if 59 with fail
  go_cut [10, 11, 12, 13] (fun v10 v11 v12 v13 wc => ∃ (k X Y CX CY xo yo n m : Nat) (zx zy : List Int) (bx by' : List Bool) (cX cY cCX cCY : Nat), wc = w.drewN k ∧ Swp A B CA CB za zb ca cb aLo aHi bLo bHi X Y CX CY xo yo n m zx zy bx by' ∧ n ≤ m ∧ v10 = .slice (some ⟨X, xo, none⟩) n cX ∧ v11 = .slice (some ⟨Y, yo, none⟩) m cY ∧ v12 = .slice (some ⟨CX, xo, none⟩) n cCX ∧ v13 = .slice (some ⟨CY, yo, none⟩) m cCY ∧ m ≤ cY ∧ m ≤ cCY)
  case first =>
    by_cases hsw : nB < nA
    · have hfm : ((nB : Int) < (nA : Int)) := by omega
      go_wp2_with fail
      go_meet
      exact ⟨_, B, A, CB, CA, bLo, aLo, nB, nA, zb, za, cb, ca, _, _, _, _, rfl, .inr ⟨rfl, rfl, rfl, rfl, rfl, rfl, HNB.out, HNA.out, rfl, rfl, rfl, rfl⟩, by omega, rfl, rfl, rfl, rfl, by omega, by omega⟩
    · have hfm : ¬ ((nB : Int) < (nA : Int)) := by omega
      go_wp2_with fail
      go_meet
      exact ⟨_, A, B, CA, CB, aLo, bLo, nA, nB, za, zb, ca, cb, _, _, _, _, rfl, .inl ⟨rfl, rfl, rfl, rfl, rfl, rfl, HNA.out, HNB.out, rfl, rfl, rfl, rfl⟩, by omega, rfl, rfl, rfl, rfl, by omega, by omega⟩
  case rest =>
    obtain ⟨k0, X, Y, CX, CY, xo, yo, n, m, zx, zy, bx, by', cX, cY, cCX, cCY, rfl, hsw, hnm, rfl, rfl, rfl, rfl, hcY, hcCY⟩ := hcut
    have sd := HFACT.out k0 _ _ _ _ _ _ _ _ _ _ _ _ hsw
    have HSW : Hid (Swp A B CA CB za zb ca cb aLo aHi bLo bHi X Y CX CY xo yo n m zx zy bx by') := hsw
    obtain ⟨wz, hwz⟩ : ∃ wz, wz = w.drewN k0 := ⟨_, rfl⟩
    have hdz := HDN.out k0
    rw [← hwz] at sd hdz ⊢
    have hm4 : m ≤ 4096 := by have := sd.hy; have := sd.by4; omega
    have hn4 : n ≤ 4096 := by omega
    clear hwz hsw HFACT HDN d0 d1 d2 d3 d7 df hbx x1 x2 x3 x4 x5 x6 x7 x8 HNA HNB HZ
    obtain ⟨rv, hbx, hrv⟩ := hdz.bx
    obtain ⟨rp, rl, rc, rfl, hold⟩ := hrv.shape
    have hkz := hdz.kp
    have hlenD := lt_of_some hbx
    have HNB : Hid (Calls Yba.prog 17 #[.slice (some ⟨X, xo, none⟩) n cX, .int .i64 m] wz fun e w' => ∃ (P : Nat) (lo : Int) (p : Option Addr) (l c : Nat) (mm : Option Nat) (N : Nat) (q : Int → Option Nat) (mb : Nat) (mt : List Nat),
      e = .returned (.pointer (some ⟨P, 0, none⟩)) ∧ BV w' P (lin zx xo) n ((n + 63) / 64) lo (.slice p l c) (.map mm) N q mb mt ∧ wz.heap.size ≤ P ∧ wz.heap.size ≤ mb ∧ Below wz.heap.size wz w') := newBV_any X xo n cX m zx wz sd.hn0 hn4 hm4 sd.hx sd.rx sd.sx
    have hn0 := sd.hn0
    have hm0 := sd.hm0
    clear hdz
    go_upto_region 6 with (go_at_call 17; refine HNB.out.mono ?_; rintro e w2 ⟨P, lo, p, l, c, mm, N, q, mb, mt, rfl, hbv, hP, hmbz, hb2⟩)
    clear HNB
    obtain ⟨W, hW⟩ : ∃ W, W = (n + 63) / 64 := ⟨_, rfl⟩
    rw [← hW] at hbv
    have hW0 : 0 < W := by omega
    have hWb : W ≤ 64 := by omega
    have HW : Hid (W = (n + 63) / 64) := hW
    obtain ⟨c0, _⟩ := boxV_cell hbv.bx
    have hbx2 : w2.heap[D]? = some (boxD (sl A na) (sl B nb) (sl CA na) (sl CB nb) (.slice rp rl rc) v4 v5 v6 v8) := (hb2.block D hlenD).trans hbx
    have hrv2 : RowsOk w0.heap.size w2 (.slice rp rl rc) := hrv.keep (fun R' ws' h => (hb2.block R' (lt_of_some h)).trans h)
    obtain ⟨d0, d1, d2, d3, d7, df⟩ := boxD_cell hbx2
    have df7 := df 7
    obtain ⟨bl, hbl⟩ : ∃ bl, bl = m / W := ⟨_, rfl⟩
    obtain ⟨K, hK⟩ : ∃ K, K = (bl + 1) * W := ⟨_, rfl⟩
    obtain ⟨BL, hBL⟩ : ∃ BL, BL = (W - 1) * W := ⟨_, rfl⟩
    obtain ⟨T, hT⟩ : ∃ T, T = K + BL := ⟨_, rfl⟩
    have hblW : bl * W ≤ m := by rw [hbl]; exact Nat.div_mul_le_self m W
    have hKe : K = bl * W + W := by rw [hK, mul1]
    have hKb : K ≤ 8192 := by omega
    have hBLb : BL ≤ 4096 := by rw [hBL]; exact Nat.le_trans (Nat.mul_le_mul (show W - 1 ≤ 64 by omega) hWb) (by omega)
    have HGROW : Hid (Calls Yba.prog 18 #[.slice rp rl rc, .int .i64 T] w2 fun e w' => ∃ R ws, e = .returned (.slice (some ⟨R, 0, none⟩) T ws.length) ∧ T ≤ ws.length ∧ ws.length ≤ 1000000 ∧ w0.heap.size ≤ R ∧ w'.heap[R]? = some (rowU ws) ∧ AllW ws ∧ Below w2.heap.size w2 w' ∧ (R = w2.heap.size ∨ R < wz.heap.size)) := grow_in w0.heap.size wz.heap.size rp rl rc T w2 (by omega) (by omega) hrv2 hold (Nat.le_trans hkz.size hb2.size)
    have HD3 : Hid (∀ w3, Below w2.heap.size w2 w3 → w3.heap[D]? = some (boxD (sl A na) (sl B nb) (sl CA na) (sl CB nb) (.slice rp rl rc) v4 v5 v6 v8)) := fun w3 h => (h.block D (lt_of_some hbx2)).trans hbx2
    have HKE : Hid (K = (m / W + 1) * W) := by show K = _; rw [hK, hbl]
    have HKF : Hid (K = bl * W + W) := hKe
    have HBL : Hid (BL = (W - 1) * W) := hBL
    have HT : Hid (T = K + BL) := hT
    have hWK : W ≤ K := by omega
    have hTb : T ≤ 20000 := by omega
    have hblm : bl ≤ 4096 := by rw [hbl]; exact Nat.le_trans (Nat.div_le_self _ _) hm4
    have a1 : (m : Int).tdiv (W : Int) = (bl : Int) := by rw [Int.tdiv_eq_ediv_of_nonneg (by omega), hbl]; simp
    have a1' : (m : Int) / (W : Int) = (bl : Int) := by rw [hbl]; simp
    have a2 : ((W : Int) == 0) = false := by rw [beq_eq_false_iff_ne]; omega
    have p1 : ((bl : Int) + 1) * (W : Int) = (K : Int) := by rw [hK]; simp
    have p2 : ((W : Int) - 1) * (W : Int) = (BL : Int) := by rw [hBL, show (W : Int) - 1 = ((W - 1 : Nat) : Int) by omega]; simp
    have a5 : ∀ z : Int, z = (bl : Int) + 1 → IntKind.i64.wrap z = (bl : Int) + 1 := fun z hz => by subst hz; rw [IntKind.wrap_i64]; omega
    have a6 : ∀ z : Int, z = (W : Int) - 1 → IntKind.i64.wrap z = (W : Int) - 1 := fun z hz => by subst hz; rw [IntKind.wrap_i64]; omega
    have a7 : ∀ z : Int, z = (K : Int) → IntKind.i64.wrap z = (K : Int) := fun z hz => by subst hz; rw [IntKind.wrap_i64]; omega
    have a8 : ∀ z : Int, z = (BL : Int) → IntKind.i64.wrap z = (BL : Int) := fun z hz => by subst hz; rw [IntKind.wrap_i64]; omega
    have a9 : ∀ z : Int, z = (K : Int) + (BL : Int) → IntKind.i64.wrap z = (T : Int) := fun z hz => by subst hz; rw [IntKind.wrap_i64]; omega
    have b7 : ∀ z : Int, z = (K : Int) → wrap64 z = (K : Int) := fun z hz => (IntWalk.i64_left _).symm.trans (a7 z hz)
    have b8 : ∀ z : Int, z = (BL : Int) → wrap64 z = (BL : Int) := fun z hz => (IntWalk.i64_left _).symm.trans (a8 z hz)
    have a10 : (K : Int) + (BL : Int) = (T : Int) := by omega
    clear hW hbl hK hBL hT hKe hblW hold hrv hrv2
    go_upto_region 9 with (go_at_call 18; refine HGROW.out.mono ?_; rintro e w3 ⟨R, ws, rfl, g1, g2, g3, g4, g5, g6, g7⟩; have hd3 := HD3.out w3 g6; obtain ⟨_, _, _, _, f7, ff⟩ := boxD_cell hd3; have ff7 := ff 7)
    have hbv3 := hbv.below g6
    have hgD := grown_setCell (World.grownBy.refl w3 (some D)) 7 (.slice (some ⟨R, 0, none⟩) T ws.length)
    have hPD : D ≠ P := fun e => by have h1 := hbv3.bx; rw [← e, hd3] at h1; simp [boxV, boxD] at h1
    have hbvD := hbv3.grown (R := D) (t := 33) hd3 (by decide) hPD (boxD_ne hd3 hbv3.rm (by decide)).symm hgD
    have sdD := ((sd.below hb2).below g6).other hd3 (by decide) (by decide) hgD
    have hRD : R ≠ D := boxD_ne hd3 g4 (by decide)
    have hrD : (w3.setCell ⟨D, 7, none⟩ (.slice (some ⟨R, 0, none⟩) T ws.length)).heap[R]? = some (rowU ws) := (heap_setCell_other _ _ _ _ (by exact hRD)).trans g4
    have hboxD := boxD_r hd3 (.slice (some ⟨R, 0, none⟩) T ws.length)
    have hkD : Keeps (fun k => k = D ∨ k = CX ∨ k = CY) w0 (w3.setCell ⟨D, 7, none⟩ (.slice (some ⟨R, 0, none⟩) T ws.length)) := ((((hkz.mono (fun k _ h => HSW.out.set D k h)).trans (Keeps.below hb2)).trans (Keeps.below g6)).trans (Keeps.grown hgD (.inl rfl)))
    have hRm : R ≠ mb := by
      have := lt_of_some hbv.rm
      rcases g7 with h | h <;> omega
    obtain ⟨wl, hwl⟩ : ∃ wl, wl = ws.length := ⟨_, rfl⟩
    have HWL : Hid (ws.length = wl) := hwl.symm
    rw [← hwl] at g1 g2 hbvD sdD hrD hboxD hkD ⊢
    obtain ⟨wD, hwD⟩ : ∃ wD, wD = w3.setCell ⟨D, 7, none⟩ (.slice (some ⟨R, 0, none⟩) T wl) := ⟨_, rfl⟩
    rw [← hwD] at hbvD sdD hrD hboxD hkD ⊢
    obtain ⟨_, _, _, _, e7, _⟩ := boxD_cell hboxD
    have HBOX : Hid (wD.heap[D]? = some (boxD (sl A na) (sl B nb) (sl CA na) (sl CB nb) (.slice (some ⟨R, 0, none⟩) T wl) v4 v5 v6 v8)) := hboxD
    have HBVD : Hid (BV wD P (lin zx xo) n W lo (.slice p l c) (.map mm) N q mb mt) := hbvD
    have HSDD : Hid (SideF wD X Y CX CY xo yo n m zx zy bx by') := sdD
    have HKD : Hid (Keeps (fun k => k = D ∨ k = CX ∨ k = CY) w0 wD) := hkD
    have HRD : Hid (wD.heap[R]? = some (rowU ws)) := hrD
    have HBL2 : Hid (2 ≤ W → 0 < BL) := fun h => by rw [HBL.out]; exact Nat.mul_pos (by omega) (by omega)
    have t1 : K ≤ T := by have := HT.out; omega
    have t2 : T - K = BL := by have := HT.out; omega
    have t3 : K ≤ wl := by omega
    have t4 : K + BL ≤ wl := by have := HT.out; omega
    clear hwD hwl g4 g6 g7 hd3 f7 ff ff7 hbv3 hgD hbv sd hbvD sdD hboxD hkD hrD hkz hb2 hbx2 hbx HD3 HGROW d0 d1 d2 d3 d7 df df7 c0 hPD hRD hlenD
    go_cut [17, 18] (fun v17 v18 wc => v17 = .slice (some ⟨R, 0, none⟩) K wl ∧ ∃ bt, bt = v18 ∧ (2 ≤ W → bt = .slice (some ⟨R, K, none⟩) BL (wl - K)) ∧ ∃ k, wc = wD.drewN k)
    case first =>
      by_cases hwK : wl = K
      · have hBL0 : BL = 0 := by omega
        go_quiet (fail)
        go_wp2_with fail
        go_meet
        exact ⟨by rw [hwK], _, rfl, fun h => absurd (HBL2.out h) (by omega), _, rfl⟩
      · go_quiet (fail)
        go_wp2_with fail
        go_meet
        exact ⟨rfl, _, rfl, fun _ => rfl, _, rfl⟩
    case rest =>
      obtain ⟨rfl, bt, rfl, hbt, k9, rfl⟩ := hcut
      have HBT : Hid (2 ≤ W → bt = .slice (some ⟨R, K, none⟩) BL (wl - K)) := hbt
      clear hbt e7 a1 a1' p1 p2 a5 a6 a7 a8 a9 b7 b8 a10 t1 t2
      go_upto_block 0 with fail
      rename_i KB haB
      refine part0 R K wl W ws (wD.drewN k9) hWb hWK (by have := HWL.out; omega) HRD.out g5 _ _ ?_
      intro u v19 v112 wF hcut
      obtain ⟨ws1, r1, r2, r3, r4, r5⟩ := hcut
      have hg5 : wD.grownBy wF (some R) := ⟨r5.os, r5.tape, r5.output, r5.size, r5.block⟩
      have HFIN : Hid (∀ fin ws bx1 by1 hf, PB wD P R X Y CX CY xo yo n m W fin wl N mb lo p l c mm q mt zx zy bx by' ws bx1 by1 hf → Back (lin zx xo) (lin zy yo) n m (mk bx1 xo) (mk by1 yo) 0 0 → CbbP w0 D A B CA CB na nb za zb v4 v5 v6 v8 ca cb aLo aHi bLo bHi (.returned (.tuple #[])) hf) := fun fin ws3 bx1 by1 hf hs hb => by
        have sdD := HSDD.out
        have hDb := HBOX.out
        have hDR : D ≠ R := (boxD_ne hDb HRD.out (by decide)).symm
        have hDX : D ≠ CX := (boxD_ne hDb sdD.cx (by decide)).symm
        have hDY : D ≠ CY := (boxD_ne hDb sdD.cy (by decide)).symm
        refine HSW.out.fin h1 h3 hla hlb ⟨_, (hs.kp.block D (lt_of_some hDb) (by rintro (h | h | h) <;> contradiction)).trans hDb, .inr ⟨R, T, ws3, by rw [hs.wl], by rw [hs.wl]; exact g1, by rw [hs.wl]; exact g2, g3, hs.rr, hs.lt⟩⟩ hs.rx hs.ry hs.cx hs.cy hs.lx hs.ly hs.ox hs.oy (HKD.out.trans' hs.kp (fun t ht h => ?_)) hb.done
        rcases h with h | h | h
        · omega
        · exact .inr (.inl h)
        · exact .inr (.inr h)
      exact haB _ _ (cbb_mid wD P R X Y CX CY xo yo n m W wl N mb lo p l c mm q mt zx zy bx by' hn4 hm4 _ HFIN K BL cX cY cCX cCY bt ws1 wF hW0 hWb g2 hRm hcY hcCY HKE HBL t3 t4 HBT (HBVD.out.words HRD.out hRm hg5) (HSDD.out.other HRD.out (by decide) (by decide) hg5) r1 (r2.trans HWL.out) r3 (fill_row r4) (((Keeps.refl _ wD).drewN k9).trans (Keeps.grown r5 (.inl rfl))))
end Go.Proofs.Ybulkdwba.lawB
