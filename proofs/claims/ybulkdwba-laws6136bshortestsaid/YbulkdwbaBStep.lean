/-
  FOR 'Rows.LawS6136BShortestSaid': (*bitVectors).step: its contract.
-/
import Derived.Test.YbulkdwbaBMem
namespace Go.Proofs.Ybulkdwba.lawB
open Go.ChangeShapes Go.WideShapes Go.ChangeAt Go.RowKit Go.Deep Go.Maps
open lawC (rowI rowI_cell rowI_frozen rowI_set made_rowI info3)
set_option linter.unusedVariables false

theorem copy_run (R o1 o2 W c1 c2 : Nat) (ws : List Nat) (wx : World) (hR : wx.heap[R]? = some (rowU ws)) (h1 : o1 + W ≤ ws.length) (h2 : o2 + W ≤ ws.length) (ty : TypeId) :
    (Builtin.copy_ #[31, 31] ty #[.slice (some ⟨R, o1, none⟩) W c1, .slice (some ⟨R, o2, none⟩) W c2]).run Yba.prog wx = .ok (goInt W) (wx.setCells R o1 (((ws.drop o2).take W).map u64v)) := by
  have hl : (((ws.drop o2).take W).map u64v).length = W := by simp; omega
  have h := run_copy_cells (P := Yba.prog) wx 31 31 ty 58 R o1 W c1 ⟨R, o2, none⟩ W c2 (((ws.drop o2).take W).map u64v) Yba.underlying31 (by kernel_rfl) (by rw [hl]; simp) (fun j v hv => ?_) (fun j hj => ?_) (fun j hj => rowV_frozen hR _) (fun v hv => ?_)
  · rw [h, hl]
  · have hj : j < W := by rw [← hl]; exact (List.getElem?_eq_some_iff.1 hv).1
    have hadd : (⟨R, o2, none⟩ : Addr).add j = ⟨R, o2 + j, none⟩ := by unfold Addr.add; split <;> simp_all
    rw [hadd, rowV_cell 0 hR (o2 + j) (by omega), ← hv]
    rw [List.getElem?_map, List.getElem?_take, if_pos hj, List.getElem?_drop, List.getElem?_eq_getElem (by omega)]; rfl
  · rw [hl] at hj; rw [rowV_cell 0 hR (o1 + j) (by omega)]; rfl
  · obtain ⟨x, _, rfl⟩ := List.mem_map.1 hv; rfl

set_option maxRecDepth 100000 in
set_option maxHeartbeats 1000000 in
theorem step_any (P : Nat) (f g : Nat → Int) (n W : Nat) (lo : Int) (p : Option Addr) (l c : Nat) (m : Option Nat) (N : Nat) (q : Int → Option Nat) (mb : Nat) (mt : List Nat) (R o1 c1 o2 c2 j : Nat) (ws : List Nat) (w : World)
    (bv : BV w P f n W lo (.slice p l c) (.map m) N q mb mt) (hR : w.heap[R]? = some (rowU ws)) (hmb : R ≠ mb) (hlt : AllW ws) (hlen : ws.length ≤ 1000000) (h1 : o1 + W ≤ ws.length) (h2 : o2 + W ≤ ws.length) (hap : o1 + W ≤ o2 ∨ o2 + W ≤ o1)
    (hc1 : W ≤ c1) (hid : Small (g j)) (hrow : RowAt f g n W ws o2 j) :
    Calls Yba.prog 23 #[.pointer (some ⟨P, 0, none⟩), .slice (some ⟨R, o1, none⟩) W c1, .slice (some ⟨R, o2, none⟩) W c2, .int .i64 (g j)] w fun e w' => e = .returned (.tuple #[]) ∧ StepP f g n W j w R o1 ws w' := by
  obtain ⟨x0, x1, x2, x3, x4, x5, x6, xf⟩ := boxV_cell bv.bx
  have hn := bv.hn
  have hWb : W ≤ 64 := by have := bv.hW; omega
  have hq : ∀ id a, q id = some a → a ≤ 4096 := fun id a h => Nat.le_of_lt (Nat.lt_of_lt_of_le (bv.ix.lt id a h) (Nat.le_trans bv.ix.le hn))
  have hof := of_any P 2 lo (g j) (.slice p l c) (.map m) q w bv.slo hid x2 x3 x4 bv.iv hq
  cases hqj : q (g j) with
  | none =>
    have hcp := fun k ty => copy_run R o1 o2 W c1 c2 ws (w.drewN k) hR h1 h2 ty
    rw [hqj] at hof
    have hof' : Calls Yba.prog 22 #[.pointer (some ⟨P, 2, none⟩), .int .i64 (g j)] w fun e w' => e = .returned (.int .i64 (-1)) ∧ ∃ n, w' = w.drewN n := hof
    have HP : Hid (∀ k, StepP f g n W j w R o1 ws ((w.drewN k).setCells R o1 (((ws.drop o2).take W).map u64v))) := fun k => by
      have hxl : ((ws.drop o2).take W).length = W := by simp; omega
      obtain ⟨r1, r2⟩ := setCells_rowU R ((ws.drop o2).take W) ws o1 (w.drewN k) hR
      refine ⟨_, r1, putW_len _ _ _, putW_all _ _ _ hlt (fun x hx => hlt x (List.mem_of_mem_drop (List.mem_of_mem_take hx))), fun t ht => putW_out _ _ _ _ (by rw [hxl]; exact ht), fun i hi => ?_, ⟨r2.os, r2.tape, r2.output, r2.size, r2.block⟩⟩
      rw [rb_same (fun t ht e => by
        have := (bv.ix.some (g j)).2 ⟨t, ht, e⟩
        rw [hqj] at this; simp at this), ← hrow i hi]
      unfold bitAt
      rw [putW_in _ _ _ _ (by rw [hxl]; omega) (by rw [hxl]; exact h1), List.getElem?_take, if_pos (by omega), List.getElem?_drop]
    clear hof hq
    go_enter Yba.func23, Yba.ntmps23
    go_wp2_with (go_at_call 22; refine hof'.mono ?_; rintro e w5 ⟨rfl, n5, rfl⟩)
    exact bodyPost_ret (results_none (by rfl) _ _ _) rfl ⟨rfl, by have h := HP.out n5; rw [List.map_take, List.map_drop] at h; exact h⟩
  | some a =>
    rw [hqj] at hof
    have hof' : Calls Yba.prog 22 #[.pointer (some ⟨P, 2, none⟩), .int .i64 (g j)] w fun e w' => e = .returned (.int .i64 (a : Int)) ∧ ∃ n, w' = w.drewN n := hof
    have haN := bv.ix.lt _ _ hqj
    have haW : a * W ≤ 300000 := by
      have h1 := Nat.mul_le_mul (hq _ _ hqj) hWb
      omega
    have haWm : a * W + W ≤ mt.length := by
      rw [bv.ok.1]
      calc a * W + W = (a + 1) * W := by rw [Nat.add_mul, Nat.one_mul]
        _ ≤ N * W := Nat.mul_le_mul_right _ haN
    have hml : mt.length ≤ 300000 := by
      rw [bv.ok.1]
      have h1 : N ≤ 4096 := Nat.le_trans bv.ix.le hn
      exact Nat.le_trans (Nat.mul_le_mul h1 hWb) (by omega)
    have hW0 : 0 < W := by have := bv.hW; have := bv.hn0; omega
    have hne : ¬ mt.length = a * W := fun e => by omega
    obtain ⟨e1, e1'⟩ : IntKind.i64.wrap ((a : Int) * (W : Int)) = ((a * W : Nat) : Int) ∧ wrap64 ((a : Int) * (W : Int)) = ((a * W : Nat) : Int) := ⟨(ix_arith a W 0 haW (by omega)).1, (ix_arith a W 0 haW (by omega)).2.1⟩
    have HD : Hid (∀ ws' wr, StepI w R o1 ws (bitAt ws o2) (bitAt mt (a * W)) W ws' wr → StepP f g n W j w R o1 ws wr) := fun ws' wr s => s.done hrow bv.ok bv.ix hqj
    have HB : Hid (∀ wr, w.grownBy wr (some R) → wr.heap[mb]? = some (rowU mt)) := fun wr h => (h.block mb (Array.getElem?_eq_some_iff.1 bv.rm).1 (by intro e; cases e; exact hmb rfl)).trans bv.rm
    have HS : Hid (∀ k, StepI w R o1 ws (bitAt ws o2) (bitAt mt (a * W)) 0 ws (w.drewN k)) := fun k => (StepI.start hR hlt).drewN k
    have HM : Hid (AllW mt) := bv.ok.2.1
    obtain ⟨aW, haWe⟩ : ∃ aW, aW = a * W := ⟨_, rfl⟩
    rw [← haWe] at haW haWm hne e1 e1' HD HS
    clear hof hq bv x1 x2 x3 x4 x5 xf hrow hqj haWe
    go_enter Yba.func23, Yba.ntmps23
    go_wp2_with (go_at_call 22; refine hof'.mono ?_; rintro e w5 ⟨rfl, n5, rfl⟩)
    go_quiet (fail)
    go_wp2_with fail
    go_loopw [10, 44] (fun cv v wr => ∃ (i : Nat) (cr : Bool) (ws' : List Nat), i ≤ W ∧ v = .int .i64 i ∧ cv = .int .u64 cr.toNat ∧ cr = cb (bitAt ws o2) (bitAt mt aW) false (64 * i) ∧ StepI w R o1 ws (bitAt ws o2) (bitAt mt aW) i ws' wr) (fun _ v _ => W - (intOf v).toNat)
    case atStart => exact ⟨0, false, ws, Nat.zero_le _, rfl, rfl, rfl, HS.out _⟩
    case round =>
      obtain ⟨i, cr, ws', hi, rfl, rfl, hcr, st⟩ := hrel
      by_cases hiW : i < W
      · have hcx := rowV_cell 0 st.rr (o2 + i) (by rw [st.len]; omega)
        rw [st.out (o2 + i) (by omega)] at hcx
        have hcm := rowV_cell 0 (HB.out wr st.gr) (aW + i) (by omega)
        have hco := rowV_cell 0 st.rr (o1 + i) (by rw [st.len]; omega)
        have hfo := rowV_frozen st.rr (o1 + i)
        obtain ⟨z, S, u, V, c', g1, g2, g3, g4, g5, hV, hb, hc'⟩ := word_nums (ws[o2 + i]?.getD 0) (mt[aW + i]?.getD 0) cr (hlt.get _) (HM.out.get _)
        obtain ⟨nb1, nb2⟩ := nb_word (v := bitAt ws o2) (m := bitAt mt aW) (i := i) (x := ws[o2 + i]?.getD 0) (y := mt[aW + i]?.getD 0) (fun k hk => bitAt_word _ _ _ _ hk) (fun k hk => bitAt_word _ _ _ _ hk) hcr
        have HSET : Hid (StepI w R o1 ws (bitAt ws o2) (bitAt mt aW) (i + 1) (ws'.set (o1 + i) V) (wr.setCell ⟨R, o1 + i, none⟩ (u64v V))) := st.set hV (by omega) (fun k hk => by rw [hb k hk]; exact nb1 k hk)
        have HC : Hid (c' = cb (bitAt ws o2) (bitAt mt aW) false (64 * (i + 1))) := hc'.trans nb2
        have hxl := hlt.get (o2 + i)
        have hcrl : (cr.toNat : Int) ≤ 1 := by cases cr <;> decide
        obtain ⟨ci, hci⟩ : ∃ ci, ci = cr.toNat := ⟨_, rfl⟩
        rw [← hci] at hcrl g2 g3 ⊢
        obtain ⟨x, hx⟩ : ∃ x, x = ws[o2 + i]?.getD 0 := ⟨_, rfl⟩
        obtain ⟨y, hy⟩ : ∃ y, y = mt[aW + i]?.getD 0 := ⟨_, rfl⟩
        rw [← hx] at hcx g1 g2 g3 g4
        rw [← hy] at hcm g1 g4
        have hcx' : wr.cell? ⟨R, o2 + i, none⟩ = some (.int .u64 (x : Int)) := hcx
        have hcm' : wr.cell? ⟨mb, aW + i, none⟩ = some (.int .u64 (y : Int)) := hcm
        have hadd := fun wx => add64 (x : Int) (z : Int) (ci : Int) (by omega) (by omega) (by omega) hcrl wx
        rw [g2, g3] at hadd
        clear hcx hcm hx hy hci hcr st hb hc' nb1 nb2 g2 g3 hof'
        go_wp2_with (simp only [hadd])
        go_roundw
        case rel => exact ⟨i + 1, c', _, hiW, by go_num, rfl, HC.out, HSET.out⟩
        case measure => simp [intOf]; omega
      · obtain rfl : i = W := by omega
        go_wp2_with fail
        go_end0
        exact ⟨rfl, HD.out _ _ st⟩
end Go.Proofs.Ybulkdwba.lawB
