/-
  FOR 'Rows.LawS6142CWholeSaid': the walk of the law itself: three loops; the callees by their contracts (YbulkdwegCBase), the memory by YbulkdwegCSteps.
-/
import Derived.Test.YbulkdwegCSteps
import Derived.Deep.RegionWith
import Derived.RegionTactic
import Derived.Deep.CutBlock
import Derived.Deep.DeepCutAuto
namespace Go.Proofs.Ybulkdweg.lawS6142CWhole
open Go.ChangeShapes Go.WideShapes Go.ChangeAt Go.RowKit
set_option linter.unusedVariables false

theorem Yba.info37 : (Yba.prog.info? 37).map (fun i => (i.zero, i.size, i.bytes)) = some (some (.int .u8 0), 1, 1) := by kernel_rfl

theorem below_undrew {B : Nat} {w w' : World} (h : Below B w.drew w') : Below B w w' := ⟨h.os, h.tape, h.output, h.size, h.block⟩
theorem one_new (w : World) (v : Value) (t : TypeId) : ∀ j u, [v][j]? = some u → (w.alloc (.cells #[v] t)).cell? ((⟨w.heap.size, 0, none⟩ : Addr).add j) = some u := by
  intro j u hj
  match j, hj with
  | 0, hj => simp at hj; subst hj; simp [Addr.add]
theorem one_cell (k : IntKind) (x : Int) : ∀ u ∈ [Value.int k x], u.oneCell' = true := by
  intro u hu; simp at hu; subst hu; rfl

set_option maxRecDepth 100000 in
set_option maxHeartbeats 1000000 in
theorem walk_in (a0 : Int) (sa : Option Addr) (len cap : Nat) (zs : List Int) (w : World) (w0 : 0 ≤ a0) (w0' : a0 ≤ 255) (hl : len ≤ 65536) (hzl : len ≤ zs.length)
    (hsa : 0 < len → ∃ b off, sa = some ⟨b, off, none⟩ ∧ b < w.heap.size ∧ ∀ j, j < len → w.cell? ⟨b, off + j, none⟩ = some (.int .u8 (zs[j]?.getD 0))) (hz : ∀ j : Nat, 0 ≤ zs[j]?.getD 0 ∧ zs[j]?.getD 0 ≤ 255) :
    Calls Yba.prog 4 #[.int .u8 a0, .slice sa len cap] w fun e w' => e = .returned (.bool true) ∧ Below w.heap.size w w' := by
  obtain ⟨i0, hi, hz0, hz1, hz2⟩ := info_parts Yba.info37
  go_enter Yba.func4, Yba.ntmps4
  go_wp2
  go_loopw [6] (fun i wr => ∃ (j : Nat) (k : Int) (p : Option Addr), j ≤ len ∧ i = .int .i64 j ∧ R1 w zs j wr k p) (fun i _ => len - (intOf i).toNat)
  case atStart => exact ⟨0, 0, none, Nat.zero_le _, rfl, R1_start w zs⟩
  case round =>
    obtain ⟨j, k, p, hj, rfl, hr⟩ := hrel
    by_cases hjl : j < len
    · obtain ⟨b, off, rfl, hlt, hc⟩ := hsa (by omega)
      have hcj : wr.cell? ⟨b, off + j, none⟩ = some (.int .u8 (zs[j]?.getD 0)) := by rw [hr.2.2.cell (by exact hlt)]; exact hc j hjl
      obtain ⟨c0, c1, c2, c3, f0, f1, f2, f3⟩ := cells4 hr.1
      have hTlt : w.heap.size < wr.heap.size := lt_of_some hr.1
      have hzj := hz j
      go_wp2_with fail
      go_region_with (go_at_call 6; refine (wrap_any _ _ _ _ (by omega) (by omega)).mono ?_; rintro e w' ⟨b', rfl, hb1, hb2, hb3⟩; obtain ⟨d0, d1, d2, d3, g0, g1, g2, g3⟩ := cells4 ((hb2.block w.heap.size hTlt).trans hr.1))
      all_goals
        go_wp2
        go_roundw
        case rel => exact ⟨j + 1, _, _, by omega, by go_num, R1_step (by omega) hr hb1 (below_undrew hb2) hb3⟩
        case measure => simp [intOf]; omega
    · obtain rfl : j = len := by omega
      go_upto_block 2 with (at_make; refine wpList_make_own _ rfl _ _ 44 rfl wr.heap.size 37 i0 (.int .u8 0) 1 Yba.underlying44 hi hz0 hz1 _ _ _ (j + 2) rfl rfl (by omega) (by rw [hz2]; omega) (by unfold maxLen; omega) (Nat.le_refl _) ?_; intro w1 hown hg)
      have hR := R2_start hr hown hg
      have hsz := own_lt hown
      obtain ⟨M, hM⟩ : ∃ M, M = wr.heap.size := ⟨_, rfl⟩
      rw [← hM] at hR hown hsz ⊢
      clear hM hg
      go_cut [7] (fun v wc => v = .slice (some ⟨M, 0, none⟩) (pre a0).length (j + 2) ∧ R2 w zs j M (pre a0) k p wc)
      case first =>
        by_cases h2 : a0 = 2
        · subst h2
          go_wp2_with (at_builtin; refine wpList_append_fits _ rfl _ _ 44 rfl M 37 i0 1 Yba.underlying44 hi hz1 M 0 (j + 2) [] rfl (hown.alloc _) ⟨w1.heap.size, 0, none⟩ 1 1 [.int .u8 5] rfl rfl (one_new _ _ _) (one_cell _ _) (by omega) ?_; intro w2 hown2 hg2)
          go_meet
          exact ⟨rfl, R2_push hR hown2 hg2⟩
        by_cases h3 : a0 = 3
        · subst h3
          clear h2
          go_wp2_with (at_builtin; refine wpList_append_fits _ rfl _ _ 44 rfl M 37 i0 1 Yba.underlying44 hi hz1 M 0 (j + 2) [] rfl (hown.alloc _) ⟨w1.heap.size, 0, none⟩ 1 1 [.int .u8 6] rfl rfl (one_new _ _ _) (one_cell _ _) (by omega) ?_; intro w2 hown2 hg2)
          go_meet
          exact ⟨rfl, R2_push hR hown2 hg2⟩
        by_cases h4 : a0 = 4
        · subst h4
          clear h2 h3
          go_wp2_with (at_builtin; refine wpList_append_fits _ rfl _ _ 44 rfl M 37 i0 1 Yba.underlying44 hi hz1 M 0 (j + 2) [] rfl (hown.alloc _) ⟨w1.heap.size, 0, none⟩ 1 1 [.int .u8 7] rfl rfl (one_new _ _ _) (one_cell _ _) (by omega) ?_; intro w2 hown2 hg2)
          go_meet
          exact ⟨rfl, R2_push hR hown2 hg2⟩
        have e2 : (a0 == 2) = false := by simpa using h2
        have e3 : (a0 == 3) = false := by simpa using h3
        have e4 : (a0 == 4) = false := by simpa using h4
        have ep : pre a0 = [] := by unfold pre; simp [h2, h3, h4]
        rw [← ep] at hR
        have HP : Hid (pre a0 = []) := ep
        clear ep h2 h3 h4
        go_wp2
        go_meet
        exact ⟨by rw [HP.out]; rfl, hR⟩
      case rest =>
        obtain ⟨rfl, hR2⟩ := hcut
        have hpl := pre_len a0
        clear hR hown hsz hr w1
        go_wp2
        go_loopw [7, 8] (fun v i wx => ∃ m : Nat, m ≤ j ∧ i = .int .i64 ((m : Int) - 1) ∧ v = .slice (some ⟨M, 0, none⟩) (pre a0 ++ dn zs j m).length (j + 2) ∧ R2 w zs j M (pre a0 ++ dn zs j m) k p wx) (fun _ i _ => (intOf i + 1).toNat)
        case atStart => exact ⟨j, Nat.le_refl _, rfl, by rw [dn_top, List.append_nil], by rw [dn_top, List.append_nil]; exact hR2⟩
        case round =>
          obtain ⟨m, hm, rfl, rfl, hR3⟩ := hrel
          have hdl := dn_len zs j m
          have hxl : (pre a0 ++ dn zs j m).length ≤ 1 + (j - m) := by rw [List.length_append]; omega
          obtain ⟨xs, hxs⟩ : ∃ xs, xs = pre a0 ++ dn zs j m := ⟨_, rfl⟩
          rw [← hxs] at hR3 hxl ⊢
          have HX : Hid (xs = pre a0 ++ dn zs j m) := hxs
          clear hxs hdl
          rcases m with _ | m
          · have em : ((0 : Nat) : Int) - 1 = -1 := by omega
            rw [em]
            clear em
            have hown := hR3.own
            have hMlt := own_lt hown
            go_wp2_with (first | (at_builtin; refine wpList_append_fits _ rfl _ _ 44 rfl M 37 i0 1 Yba.underlying44 hi hz1 M xs.length (j + 2) (xs.map (Value.int .u8)) rfl (hown.alloc _) ⟨_, 0, none⟩ 1 1 [.int .u8 0] rfl rfl (one_new _ _ _) (one_cell _ _) (by omega) ?_; intro w2 hown2 hg2; have hR4 := R2_push hR3 hown2 hg2; obtain ⟨c0, c1, c2, c3, f0, f1, f2, f3⟩ := cells4 hR4.t) | (go_at_call 8; refine (col_any _ _ _ _ hR4.chain).mono ?_; rintro e w3 ⟨k', p', rfl, hc4, hb4⟩))
            have ex : xs = pre a0 ++ ks zs j := by rw [HX.out, dn_zero]
            have hS : R3 w M (j + 2) w3.heap.size (xs ++ [0]) 0 xs k' p' (w3.alloc (box k' p')) := by rw [ex] at hR4 ⊢; exact R3_start hR4 hb4 hc4
            clear c0 c1 c2 c3 f0 f1 f2 f3 hR4 hown2 hg2 hb4 hc4 hown hR3 ex HX hR2
            obtain ⟨R, hRe⟩ : ∃ R, R = w3.heap.size := ⟨_, rfl⟩
            obtain ⟨ys, hys⟩ : ∃ ys, ys = xs ++ [0] := ⟨_, rfl⟩
            have hyl : ys.length = xs.length + 1 := by rw [hys]; simp
            rw [← hRe, ← hys] at hS
            rw [← hRe, ← hyl]
            have hyb : ys.length ≤ 65538 := by omega
            clear hRe hyl hys
            go_loopw [10] (fun i wx => ∃ (i' : Nat) (l : List Int) (k2 : Int) (p2 : Option Addr), i = .int .i64 i' ∧ R3 w M (j + 2) R ys i' l k2 p2 wx) (fun i _ => ys.length - (intOf i).toNat)
            case atStart => exact ⟨0, xs, k', p', rfl, hS⟩
            case round =>
              obtain ⟨i, l, k2, p2, rfl, h3⟩ := hrel
              obtain ⟨hil, hik, hl0⟩ := R3_at h3
              obtain ⟨c0, c1, c2, c3, f0, f1, f2, f3⟩ := cells4 h3.r
              have hRlt := lt_of_some h3.r
              have hMlt3 := own_lt h3.own
              have hci : wr.cell? ⟨M, i, none⟩ = some (.int .u8 k2) := by
                rw [h3.own.cellAt i (by omega), ← hik]
                simp [hil]
              have HK : Hid (ys[i]?.getD 0 = k2) := hik
              clear hik
              cases l with
              | nil =>
                obtain rfl : k2 = 0 := hl0.1 rfl
                clear hl0
                go_wp2_with (go_at_call 9; refine (kindOf_any _ _ _).mono ?_; rintro e w4 ⟨rfl, hb5⟩)
                go_ret
                exact ⟨rfl, (R3_keep h3 hb5).bel⟩
              | cons x l =>
                have hk0 : (k2 == 0) = false := by simpa using fun h => by simpa using hl0.2 h
                clear hl0
                obtain ⟨hx, b3, k3, p3, rfl, hP3, hb3, hch3⟩ := h3.chain
                have hb3lt := lt_of_some hb3
                have HX2 : Hid (k2 = x) := hx
                clear hx
                go_wp2_with (first | (go_at_call 9; refine (kindOf_any _ _ _).mono ?_; rintro e w4 ⟨rfl, hb5⟩; obtain ⟨d0, d1, d2, d3, g0, g1, g2, g3⟩ := cells4 (R3_keep h3 hb5).r) | (go_at_call 10; refine (elem_any _ _ _ _ _ ((hb5.block _ hb3lt).trans hb3)).mono ?_; rintro e w5 ⟨rfl, hb6⟩; obtain ⟨d0, d1, d2, d3, g0, g1, g2, g3⟩ := cells4 (R3_keep (R3_keep h3 hb5) hb6).r))
                go_roundw
                case rel => exact ⟨i + 1, l, k3, p3, by go_num, R3_step (R3_keep h3 hb5) (Chain.keep (fun b o hP ho => ⟨hP, (hb5.block b (lt_of_some ho)).trans ho⟩) _ _ _ hch3) hb6⟩
                case measure => simp [intOf]; omega
          · have em : ((m + 1 : Nat) : Int) - 1 = (m : Int) := by omega
            rw [em]
            clear em
            obtain ⟨b, off, rfl, hlt, hc⟩ := hsa (by omega)
            have hcm : wr.cell? ⟨b, off + m, none⟩ = some (.int .u8 (zs[m]?.getD 0)) := by rw [hR3.bel.cell (by exact hlt)]; exact hc m (by omega)
            have hzm := hz m
            have hown := hR3.own
            have hMlt := own_lt hown
            go_wp2_with (first | (go_at_call 7; refine (kind_any _ _ (by omega) (by omega)).mono ?_; rintro e w' ⟨rfl, rfl⟩) | (at_builtin; refine wpList_append_fits _ rfl _ _ 44 rfl M 37 i0 1 Yba.underlying44 hi hz1 M xs.length (j + 2) (xs.map (Value.int .u8)) rfl (hown.alloc _) ⟨_, 0, none⟩ 1 1 [.int .u8 (kd (zs[m]?.getD 0))] rfl rfl (one_new _ _ _) (one_cell _ _) (by omega) ?_; intro w2 hown2 hg2))
            go_roundw
            case rel =>
              have e : pre a0 ++ dn zs j m = xs ++ [kd (zs[m]?.getD 0)] := by rw [HX.out, dn_step zs j m (by omega) hzl, List.append_assoc]
              have e2 : (pre a0 ++ dn zs j m).length = xs.length + 1 := by rw [e]; simp
              exact ⟨m, by omega, rfl, by rw [e2], by rw [e]; exact R2_push hR3 hown2 hg2⟩
            case measure => simp [intOf]

theorem walk_big (a0 : Int) (sa : Option Addr) (len cap : Nat) (w : World) (hl : (65536 : Int) < (len : Int)) :
    Calls Yba.prog 4 #[.int .u8 a0, .slice sa len cap] w fun e w' => e = .returned (.bool true) ∧ Below w.heap.size w w' := by
  go_enter Yba.func4, Yba.ntmps4
  go_wp2
  go_ret
  exact ⟨rfl, Below.refl _ _⟩
end Go.Proofs.Ybulkdweg.lawS6142CWhole
