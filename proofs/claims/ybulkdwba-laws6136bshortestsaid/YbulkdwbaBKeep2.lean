/-
  FOR 'Rows.LawS6136BShortestSaid': (*bitVectors).keep: its contract where a row has more words.
-/
import Derived.Test.YbulkdwbaBKeep
import Derived.Deep.CutBlock
import Derived.Deep.CutRange
namespace Go.Proofs.Ybulkdwba.lawB
open Go.ChangeShapes Go.WideShapes Go.ChangeAt Go.RowKit Go.Deep Go.Maps
open lawC (rowI rowI_cell rowI_frozen rowI_set made_rowI info3)
set_option linter.unusedVariables false

theorem mul1 (c W : Nat) : (c + 1) * W = c * W + W := by rw [Nat.add_mul, Nat.one_mul]
/-- A block of lines more. -/
theorem KeepI.next {f g : Nat → Int} {n W : Nat} {w : World} {R K : Nat} {ws ws' : List Nat} {c : Nat} {wr : World} (s : KeepI f g n W w R ws c ws' wr) {ws1 ws2 : List Nat} {w1 w2 : World} {k1 k2 : Nat} (hK : c * W + W + W ≤ K)
    (p : WalkP f g n W (c * W) (W - 1) (wr.drewN k1) R K ws' ws1 w1) (h1 : w2.heap[R]? = some (rowU ws2)) (h2 : ws2.length = ws1.length) (h3 : AllW ws2)
    (h4 : ∀ t, (t < c * W + W ∨ c * W + W + W ≤ t) → ws2[t]? = ws1[t]?) (h5 : RowAt f g n W ws2 (c * W + W) (c * W + W)) (h6 : (w1.drewN k2).grownBy w2 (some R)) : KeepI f g n W w R ws (c + 1) ws2 w2 := by
  refine ⟨h1, h2.trans (p.len.trans s.len), h3, fun c' hc => ?_, grown_trans (grown_trans (grown_drewN s.gr k1) (grown_drewN p.gr k2)) h6⟩
  by_cases e : c' = c + 1
  · subst e; rw [mul1]; exact h5
  · have hr1 : (c' + 1) * W ≤ (c + 1) * W := Nat.mul_le_mul_right _ (by omega)
    rw [mul1, mul1] at hr1
    exact (s.rows c' (by omega)).keep (fun t ht => by rw [h4 _ (by omega)]; exact p.out _ (by omega))

set_option maxRecDepth 100000 in
set_option maxHeartbeats 2000000 in
theorem keep_more (P : Nat) (f g : Nat → Int) (n W : Nat) (lo : Int) (p : Option Addr) (l c : Nat) (mm : Option Nat) (N : Nat) (q : Int → Option Nat) (mb : Nat) (mt : List Nat) (R K cK lb cb B bo m cB : Nat) (zs : List Int) (ws : List Nat) (w : World)
    (bv : BV w P f n W lo (.slice p l c) (.map mm) N q mb mt) (hR : w.heap[R]? = some (rowU ws)) (hB : w.heap[B]? = some (rowI zs)) (hmb : R ≠ mb) (hlt : AllW ws) (hlen : ws.length ≤ 1000000) (hm : m ≤ 4096) (hW2 : 2 ≤ W) (hK : K = (m / W + 1) * W) (hKl : K + (W - 1) * W ≤ ws.length) (hcK : K ≤ cK) (hlb : lb = (W - 1) * W) (hcb : lb ≤ cb) (hmB : m ≤ cB)
    (hids : ∀ k, k < m → bo + k < zs.length ∧ zs[bo + k]?.getD 0 = g k ∧ Small (g k)) (hrow : RowAt f g n W ws 0 0) :
    Calls Yba.prog 19 #[.pointer (some ⟨P, 0, none⟩), .slice (some ⟨R, 0, none⟩) K cK, .slice (some ⟨R, K, none⟩) lb cb, .slice (some ⟨B, bo, none⟩) m cB] w (KeepP f g n W m w R ws) := by
  have hn := bv.hn
  have hWb : W ≤ 64 := by have := bv.hW; omega
  have HBV : Hid (∀ wr k, w.grownBy wr (some R) → BV (wr.drewN k) P f n W lo (.slice p l c) (.map mm) N q mb mt) := fun wr k h => bv.words hR hmb (grown_drewN h k)
  have HB : Hid (∀ wr, w.grownBy wr (some R) → wr.heap[B]? = some (rowI zs)) := fun wr h => (h.block B (Array.getElem?_eq_some_iff.1 hB).1 (by intro e; cases e; rw [hR] at hB; simp [rowV, rowI] at hB)).trans hB
  have HS : Hid (KeepI f g n W w R ws 0 ws w) := KeepI.start hR hlt hrow
  have HI : Hid (∀ k, k < m → bo + k < zs.length ∧ zs[bo + k]?.getD 0 = g k ∧ Small (g k)) := hids
  obtain ⟨x0, _⟩ := boxV_cell bv.bx
  have hbW : ((W : Int) == 1) = false := by rw [beq_eq_false_iff_ne]; omega
  have HK : Hid (∀ s, s + W ≤ m → (∃ c, s = c * W) → s + W + W ≤ K) := fun s hs ⟨c, hc⟩ => by
    have h1 : (c + 1) * W ≤ m := by rw [mul1]; omega
    have h2 : c + 1 ≤ m / W := (Nat.le_div_iff_mul_le (by omega)).2 h1
    have h3 : (c + 1 + 1) * W ≤ (m / W + 1) * W := Nat.mul_le_mul_right _ (by omega)
    rw [mul1, mul1] at h3
    omega
  have hWK : W ≤ K := by rw [hK, mul1]; omega
  obtain ⟨BL, hBL⟩ : ∃ BL, BL = (W - 1) * W := ⟨_, rfl⟩
  obtain ⟨U, hU⟩ : ∃ U, U = (W - 2) * W := ⟨_, rfl⟩
  have hBU : BL = U + W := by rw [hBL, hU, show W - 1 = (W - 2) + 1 by omega, mul1]
  have hBLb : BL ≤ 4096 := by rw [hBL]; exact Nat.le_trans (Nat.mul_le_mul (show W - 1 ≤ 64 by omega) hWb) (by omega)
  rw [← hBL] at hKl hlb
  have hKb : K ≤ 8192 := by
    have h1 : m / W * W ≤ m := Nat.div_mul_le_self m W
    rw [hK, mul1]; omega
  have HBL : Hid (BL = (W - 1) * W) := hBL
  have HU : Hid (U = (W - 2) * W) := hU
  have HBU : Hid (BL = U + W) := hBU
  have HLEN : Hid (ws.length ≤ 1000000) := hlen
  have hLU : lb - W = U := by omega
  have hUl : U ≤ lb := by omega
  have hUc : ¬ cb = U := by omega
  have hWl : W ≤ lb := by omega
  have HLB : Hid (lb = BL) := hlb
  have hWcK : W ≤ cK := by omega
  clear hids hrow bv hB hK hBL hU hlen hlt hBU hlb
  go_enter Yba.func19, Yba.ntmps19
  go_wp2_with fail
  go_loopw [14, 15] (fun v14 v15 wr => ∃ (s c cv : Nat) (ws' : List Nat), s ≤ m ∧ v15 = .int .i64 s ∧ v14 = .slice (some ⟨R, s, none⟩) W cv ∧ s = c * W ∧ KeepI f g n W w R ws c ws' wr) (fun _ v15 _ => m - (intOf v15).toNat)
  case atStart => exact ⟨0, 0, cK, ws, Nat.zero_le _, rfl, rfl, (Nat.zero_mul _).symm, HS.out⟩
  case round =>
    clear HS x0
    obtain ⟨s, c, cv, ws', hs, rfl, rfl, hsc, st⟩ := hrel
    obtain ⟨x0, _⟩ := boxV_cell (HBV.out wr 0 st.gr).bx
    have x0' : wr.cell? ⟨P, 0, none⟩ = some (.int .i64 W) := x0
    by_cases hsm : s + W ≤ m
    · have hK3 := HK.out s hsm ⟨c, hsc⟩
      obtain ⟨t, ht⟩ : ∃ t, t = s + W - 1 := ⟨_, rfl⟩
      obtain ⟨d, hd⟩ : ∃ d, d = W - 1 := ⟨_, rfl⟩
      have hslen := st.len
      have hlenb := HLEN.out
      have hBLU := HBU.out
      have hlbe := HLB.out
      have HCALL20 : Hid (∀ k, Calls Yba.prog 20 #[.pointer (some ⟨P, 0, none⟩), .slice (some ⟨R, K, none⟩) lb cb, .slice (some ⟨R, s, none⟩) W cv, .slice (some ⟨B, bo + s, none⟩) d (cB - s)] (wr.drewN k) fun e w' => e = .returned (.tuple #[]) ∧ ∃ ws1, WalkP f g n W s d (wr.drewN k) R K ws' ws1 w') := fun k => by
        have e : d * W = BL := by rw [HBL.out, hd]
        refine walk_any P f g n W lo p l _ mm N q mb mt R K lb cb s cv B (bo + s) d (cB - s) s zs ws' (wr.drewN k) (HBV.out wr k st.gr) st.rr (HB.out wr st.gr) hmb st.lt (by omega) (by omega) (by omega) (by omega) (.inl (by omega)) (by omega) (fun k hk => ?_) (by rw [hsc]; exact st.rows c (Nat.le_refl _))
        rw [Nat.add_assoc]
        exact HI.out (s + k) (by omega)
      have HG1 : Hid (∀ k ws1 w1, WalkP f g n W s d (wr.drewN k) R K ws' ws1 w1 → w.grownBy w1 (some R)) := fun k ws1 w1 h => grown_trans (grown_drewN st.gr k) h.gr
      have HC1 : Hid (∀ k ws1 w1, WalkP f g n W s d (wr.drewN k) R K ws' ws1 w1 → w1.cell? ⟨P, 0, none⟩ = some (.int .i64 W) ∧ w1.cell? ⟨B, bo + t, none⟩ = some (.int .i64 (g t))) := fun k ws1 w1 h => by
        have hg := HG1.out k ws1 w1 h
        obtain ⟨i1, i2, i3⟩ := HI.out t (by omega)
        have h2 := rowI_cell (HB.out w1 hg) (bo + t) i1
        rw [i2] at h2
        exact ⟨(boxV_cell (HBV.out w1 0 hg).bx).1, h2⟩
      have HCALL23 : Hid (∀ k ws1 w1 k2, WalkP f g n W s d (wr.drewN k) R K ws' ws1 w1 → Calls Yba.prog 23 #[.pointer (some ⟨P, 0, none⟩), .slice (some ⟨R, s + W, none⟩) W (cK - (s + W)), .slice (some ⟨R, K + U, none⟩) W (cb - U), .int .i64 (g t)] (w1.drewN k2) fun e w' => e = .returned (.tuple #[]) ∧ StepP f g n W t (w1.drewN k2) R (s + W) ws1 w') := fun k ws1 w1 k2 h => by
        have h1 := h.len
        refine step_any P f g n W lo p l _ mm N q mb mt R (s + W) (cK - (s + W)) (K + U) (cb - U) t ws1 (w1.drewN k2) (HBV.out w1 k2 (HG1.out k ws1 w1 h)) h.rr hmb h.lt (by omega) (by omega) (by omega) (.inl (by omega)) (by omega) (HI.out t (by omega)).2.2 ?_
        have h2 := h.rows (W - 2) (by omega)
        rw [← HU.out, show s + (W - 2) + 1 = t by omega] at h2
        exact h2
      have HNEXT : Hid (∀ k ws1 w1 k2 w2, WalkP f g n W s d (wr.drewN k) R K ws' ws1 w1 → StepP f g n W t (w1.drewN k2) R (s + W) ws1 w2 → ∃ ws2, KeepI f g n W w R ws (c + 1) ws2 w2 ∧ RowAt f g n W ws2 (s + W) (s + W)) := fun k ws1 w1 k2 w2 h1 ⟨ws2, a1, a2, a3, a4, a5, a6⟩ => by
        rw [show t + 1 = s + W by omega] at a5
        rw [hsc, hd] at h1
        rw [hsc] at a4 a5
        refine ⟨ws2, st.next (by omega) h1 a1 a2 a3 a4 a5 a6, by rw [hsc]; exact a5⟩
      have HCALL24 : Hid (∀ ws2 w2 k, KeepI f g n W w R ws (c + 1) ws2 w2 → RowAt f g n W ws2 (s + W) (s + W) → Calls Yba.prog 24 #[.pointer (some ⟨P, 0, none⟩), .slice (some ⟨R, s + W, none⟩) W (cK - (s + W))] (w2.drewN k) fun e w' => ∃ b, e = .returned (.bool b) ∧ (b = true → L f g n (s + W) = n) ∧ ∃ k', w' = (w2.drewN k).drewN k') := fun ws2 w2 k h hr => by
        have h1 := h.len
        exact all_any P f g n W lo _ _ N q mb mt R (s + W) (cK - (s + W)) (s + W) ws2 (w2.drewN k) (HBV.out w2 k h.gr) h.rr h.lt (by omega) (by omega) (by omega) hr
      have HC2 : Hid (∀ ws2 w2, KeepI f g n W w R ws (c + 1) ws2 w2 → w2.cell? ⟨P, 0, none⟩ = some (.int .i64 W)) := fun ws2 w2 h => (boxV_cell (HBV.out w2 0 h.gr).bx).1
      have HDONE : Hid (∀ ws2 w2 k, KeepI f g n W w R ws (c + 1) ws2 w2 → L f g n (s + W) = n → KeepP f g n W m w R ws (.returned (.int .i64 ((s + W : Nat) : Int))) (w2.drewN k)) := fun ws2 w2 k h hL => by
        have h' : KeepI f g n W w R ws (c + 1) ws2 (w2.drewN k) := ⟨h.rr, h.len, h.lt, h.rows, grown_drewN h.gr k⟩
        exact h'.done hsm (fun _ => hL) (by rw [mul1, mul1, ← hsc]; omega)
      have HREL : Hid (∀ ws2 w2 k, KeepI f g n W w R ws (c + 1) ws2 w2 → s + W = (c + 1) * W ∧ KeepI f g n W w R ws (c + 1) ws2 (w2.drewN k)) := fun ws2 w2 k h => ⟨by rw [mul1, ← hsc], ⟨h.rr, h.len, h.lt, h.rows, grown_drewN h.gr k⟩⟩
      have e1 : (s : Int) + (W : Int) - 1 = (t : Int) := by omega
      have e11 : lb - U = W := by omega
      have e13 : lb ≤ 4096 := by omega
      have e14 : U ≤ 4096 := by omega
      have e12 : U ≤ cb := by omega
      have e2 : t - s = d := by omega
      have e3 : s ≤ t := by omega
      have e4 : t < m := by omega
      have e5 : ¬ cK = s + W := by omega
      have e6 : s + W ≤ K := by omega
      have e7 : s + W + W ≤ cK := by omega
      have e8 : ¬ cB = s := by omega
      have e9 : t ≤ cB := by omega
      have e10 : ∀ z : Int, z = (lb : Int) - (W : Int) → IntKind.i64.wrap z = (U : Int) := fun z hz => by subst hz; rw [IntKind.wrap_i64]; omega
      have e17 : ∀ z : Int, z = (s : Int) + (W : Int) → IntKind.i64.wrap z = (s : Int) + (W : Int) := fun z hz => by subst hz; rw [IntKind.wrap_i64]; omega
      have e16 : ∀ z : Int, z = (t : Int) → IntKind.i64.wrap z = (t : Int) := fun z hz => by subst hz; rw [IntKind.wrap_i64]; omega
      clear st x0 HBV HB HI HBL HU HBU HLB HLEN hsc hslen hlenb hBLU hlbe ht hd
      go_upto_region 19 with fail
      go_quiet (fail)
      go_upto_region 21 with (go_at_call 20; refine (HCALL20.out _).mono ?_; rintro e w1 ⟨rfl, ws1, hw1⟩; obtain ⟨y0, yB⟩ := HC1.out _ _ _ hw1)
      go_cut [14, 15, 16] from 78 to 151 (fun v14 v15 v16 wc => v14 = .slice (some ⟨R, s, none⟩) W cv ∧ v15 = .int .i64 s ∧ v16 = .slice (some ⟨R, s + W, none⟩) W (cK - (s + W)) ∧ ∃ k, StepP f g n W t (w1.drewN k) R (s + W) ws1 wc)
      case first =>
        go_region_with (go_at_call 23; refine (HCALL23.out _ _ _ _ hw1).mono ?_; rintro e w2 ⟨rfl, hw2⟩)
        all_goals
          go_wp2_with fail
          go_meet
          case rel => exact ⟨rfl, rfl, rfl, _, hw2⟩
      case rest =>
        obtain ⟨rfl, rfl, rfl, k2, hstep⟩ := hcut
        obtain ⟨ws2, hk2, hr2⟩ := HNEXT.out _ _ _ _ _ hw1 hstep
        have y2 := HC2.out _ _ hk2
        have HR2 : Hid (RowAt f g n W ws2 (s + W) (s + W)) := hr2
        have HK2 : Hid (KeepI f g n W w R ws (c + 1) ws2 wc) := hk2
        clear hw1 hstep y0 yB HNEXT HCALL20 HCALL23 HC1 HG1 x0' hr2 hk2 e2 HC2
        go_wp2_with (go_at_call 24; refine (HCALL24.out _ _ 0 HK2.out HR2.out).mono ?_; rintro e w5 ⟨b, rfl, hb, k5, rfl⟩)
        · go_ret
          exact HDONE.out _ _ _ HK2.out (hb (by assumption))
        · go_roundw
          case rel => exact ⟨s + W, c + 1, _, ws2, hsm, by go_num, rfl, (HREL.out _ _ 0 HK2.out).1, (HREL.out _ _ _ HK2.out).2⟩
          case measure => simp [intOf]; omega
    · have HD : Hid (KeepP f g n W m w R ws (.returned (.int .i64 m)) wr) := st.done (Nat.le_refl _) (fun h => absurd h (by omega)) (by rw [mul1, ← hsc]; omega)
      clear HBV HB HI st
      go_wp2_with fail
      go_ret
      exact HD.out
end Go.Proofs.Ybulkdwba.lawB
