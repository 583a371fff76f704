/-
  FOR 'Rows.LawS6136CWholeSaid': zzs6136cids, zzs6136ceq, zzs6136cspan: their contracts.
-/
import Derived.Test.YbulkdwbaRows
import Derived.WalkKit
import Derived.ProofKit
import Derived.Below
import Derived.Deep.OwnRows
import Derived.WalkLawsBesides
import Derived.Deep.QuietTactic
import Derived.BigQuiet
namespace Go.Proofs.Ybulkdwba.lawC
open Go.ChangeShapes Go.WideShapes Go.ChangeAt Go.RowKit Go.Deep
set_option linter.unusedVariables false

theorem info3 : (Yba.prog.info? 3).map (fun i => (i.zero, i.size, i.bytes)) = some (some (.int .i64 0), 1, 8) := by kernel_rfl

/-- A row of integers: the block's object. -/
def rowI (zs : List Int) : Obj := .cells (zs.map (Value.int .i64)).toArray 3

theorem made_rowI (n : Nat) : Obj.cells (madeCells #[.int .i64 0] n) 3 = rowI (List.replicate n 0) := by
  unfold rowI
  congr 1
  apply Array.toList_inj.1
  rw [toList_madeCells_one]; simp

theorem rowI_cell {w : World} {g : Nat} {zs : List Int} (h : w.heap[g]? = some (rowI zs)) (j : Nat) (hj : j < zs.length) : w.cell? ⟨g, j, none⟩ = some (.int .i64 (zs[j]?.getD 0)) := by
  unfold rowI at h
  rw [cell_of_row w g j _ 3 (0, 0) h]
  simp [hj]
theorem rowI_frozen {w : World} {g : Nat} {zs : List Int} (h : w.heap[g]? = some (rowI zs)) (j : Nat) : w.frozen? ⟨g, j, none⟩ = false := frozen_of_row w g j _ 3 h
theorem rowI_set {w : World} {g : Nat} {zs : List Int} (h : w.heap[g]? = some (rowI zs)) (j : Nat) (x : Int) : (w.setCell ⟨g, j, none⟩ (.int .i64 x)).heap[g]? = some (rowI (zs.set j x)) := by
  unfold rowI at h ⊢
  rw [heap_setCell_same w g j _ 3 _ h]
  congr 2
  apply Array.toList_inj.1
  simp

/-- The line id that a raw number stands for. -/
def id4 (v : Int) : Int := v % 4
/-- The row of ids, its first j laid. -/
def part (zs : List Int) (len j : Nat) : List Int := ((zs.take len).map id4).take j ++ List.replicate (len - j) 0
theorem part_zero (zs : List Int) (len : Nat) : part zs len 0 = List.replicate len 0 := by unfold part; simp
theorem part_full (zs : List Int) (len : Nat) (h : len ≤ zs.length) : part zs len len = (zs.take len).map id4 := by
  unfold part
  rw [List.take_of_length_le (by simp; omega)]; simp
theorem part_len (zs : List Int) (len j : Nat) (h : len ≤ zs.length) (hj : j ≤ len) : (part zs len j).length = len := by unfold part; simp; omega
theorem part_set (zs : List Int) (len j : Nat) (h : len ≤ zs.length) (hj : j < len) : (part zs len j).set j (id4 (zs[j]?.getD 0)) = part zs len (j + 1) := by
  apply List.ext_getElem?
  intro i
  unfold part
  rw [List.getElem?_set]
  by_cases hij : j = i
  · subst hij
    rw [if_pos rfl, if_pos (by simp; omega), List.getElem?_append_left (by simp; omega)]
    simp [hj, show j < zs.length by omega]
  · rw [if_neg hij]
    by_cases h2 : i < j
    · rw [List.getElem?_append_left (by simp; omega), List.getElem?_append_left (by simp; omega)]
      simp [List.getElem?_take, h2, show i < j + 1 by omega]
    · rw [List.getElem?_append_right (by simp; omega), List.getElem?_append_right (by simp; omega)]
      simp only [List.getElem?_replicate, List.length_take, List.length_map]
      split <;> split <;> first | rfl | omega

theorem conv64 (v : Int) : wrap64 ((IntKind.u64.wrap v).tmod 4) = id4 v := by
  have h : 0 ≤ IntKind.u64.wrap v := by rw [IntKind.wrap_u64]; omega
  rw [Int.tmod_eq_emod_of_nonneg h, IntKind.wrap_u64]; unfold id4 wrap64; omega

set_option maxHeartbeats 400000 in
theorem ids_some (x : Addr) (len cap : Nat) (zs : List Int) (w : World) (hl : len ≤ 16384) (hzl : len ≤ zs.length)
    (hsa : 0 < len → ∃ b off, x = ⟨b, off, none⟩ ∧ b < w.heap.size ∧ ∀ j, j < len → w.cell? ⟨b, off + j, none⟩ = some (.int .i64 (zs[j]?.getD 0))) :
    Calls Yba.prog 12 #[.slice (some x) len cap] w fun e w' => e = .returned (.slice (some ⟨w.heap.size, 0, none⟩) len len) ∧ Below w.heap.size w w' ∧ w'.heap[w.heap.size]? = some (rowI ((zs.take len).map id4)) := by
  have hmk := fun wx => run_make_row' (P := Yba.prog) 25 3 (.int .i64 0) 8 Yba.underlying25 info3 rfl .i64 .i64 len (by omega) (by omega) wx
  have hnil := fun wx => Lib.run_eql_slice_nil (P := Yba.prog) wx 25 3 (some x) len cap 0 0 Yba.underlying25
  go_enter Yba.func12, Yba.ntmps12
  go_wp2
  rw [made_rowI]
  go_loopw [13] (fun i wr => ∃ j : Nat, j ≤ len ∧ i = .int .i64 j ∧ wr.heap[w.heap.size]? = some (rowI (part zs len j)) ∧ Below w.heap.size w wr) (fun i _ => len - (intOf i).toNat)
  case atStart => exact ⟨0, Nat.zero_le _, rfl, by rw [part_zero]; exact heap_alloc_new _ _, (Below.refl _ _).alloc (Nat.le_refl _) _⟩
  case round =>
    obtain ⟨j, hj, rfl, hrow, hbel⟩ := hrel
    by_cases hjl : j < len
    · obtain ⟨b, off, rfl, hlt, hc⟩ := hsa (by omega)
      have hcj : wr.cell? ⟨b, off + j, none⟩ = some (.int .i64 (zs[j]?.getD 0)) := by rw [hbel.cell (by exact hlt)]; exact hc j hjl
      have hpl := part_len zs len j hzl hj
      have hcw := rowI_cell hrow j (by omega)
      have hfw := rowI_frozen hrow j
      clear hmk hnil
      go_wp2
      go_roundw
      case rel => exact ⟨j + 1, by omega, by go_num, by rw [← part_set zs len j hzl hjl, ← conv64]; exact rowI_set hrow j _, hbel.setCell (Nat.le_refl _) _⟩
      case measure => simp [intOf]; omega
    · obtain rfl : j = len := by omega
      go_wp2
      go_ret
      exact ⟨rfl, hbel, by rw [← part_full zs j hzl]; exact hrow⟩

theorem ids_nil (w : World) : Calls Yba.prog 12 #[.slice none 0 0] w fun e w' => e = .returned (.slice none 0 0) ∧ w' = w := by
  have hnil := fun wx => Lib.run_eql_slice_nil (P := Yba.prog) wx 25 3 none 0 0 0 0 Yba.underlying25
  go_enter Yba.func12, Yba.ntmps12
  go_wp2
  go_ret
  exact ⟨rfl, rfl⟩

/-- Two rows that read alike are told equal. -/
theorem eq_same (a b : Option Addr) (n ca cb : Nat) (zs : List Int) (w : World) (hn : n ≤ 16384) (hz : n ≤ zs.length)
    (ha : 0 < n → ∃ g, a = some ⟨g, 0, none⟩ ∧ w.heap[g]? = some (rowI zs)) (hb : 0 < n → ∃ g, b = some ⟨g, 0, none⟩ ∧ w.heap[g]? = some (rowI zs)) :
    Calls Yba.prog 15 #[.slice a n ca, .slice b n cb] w fun e w' => e = .returned (.bool true) ∧ ∃ q, w' = w.drewN q := by
  go_enter Yba.func15, Yba.ntmps15
  go_wp2
  go_loopw [13] (fun i wr => ∃ j : Nat, j ≤ n ∧ i = .int .i64 j ∧ ∃ q, wr = w.drewN q) (fun i _ => n - (intOf i).toNat)
  case atStart => exact ⟨0, Nat.zero_le _, rfl, 0, rfl⟩
  case round =>
    obtain ⟨j, hj, rfl, q, rfl⟩ := hrel
    by_cases hjl : j < n
    · obtain ⟨g, rfl, hg⟩ := ha (by omega)
      obtain ⟨g', rfl, hg'⟩ := hb (by omega)
      have h1 := rowI_cell hg j (by omega)
      have h2 := rowI_cell hg' j (by omega)
      go_wp2
      go_quiet (fail)
      go_wp2

      go_roundw
      case rel => exact ⟨j + 1, by omega, by go_num, _, rfl⟩
      case measure => simp [intOf]; omega
    · obtain rfl : j = n := by omega
      go_wp2
      go_ret
      exact ⟨rfl, _, rfl⟩

theorem span_val (a : Int) (n : Nat) (hn : n ≤ 16384) : ∃ x : Nat, x ≤ n ∧ wrap64 ((IntKind.u64.wrap a).tmod (↑n + 1)) = x := by
  have h : 0 ≤ IntKind.u64.wrap a := by rw [IntKind.wrap_u64]; omega
  have h1 : 0 ≤ (IntKind.u64.wrap a) % ((n : Int) + 1) := Int.emod_nonneg _ (by omega)
  have h2 : (IntKind.u64.wrap a) % ((n : Int) + 1) < (n : Int) + 1 := Int.emod_lt_of_pos _ (by omega)
  rw [Int.tmod_eq_emod_of_nonneg h]
  refine ⟨((IntKind.u64.wrap a) % ((n : Int) + 1)).toNat, by omega, ?_⟩
  generalize (IntKind.u64.wrap a) % ((n : Int) + 1) = q at h1 h2 ⊢
  unfold wrap64; omega

/-- What a span's call leaves: two bounds in order, within the text. -/
def Spans (w : World) (n : Nat) (e : Ending) (w' : World) : Prop :=
  ∃ x y : Nat, x ≤ y ∧ y ≤ n ∧ e = .returned (.agg #[.int .i64 x, .int .i64 y]) ∧ w' = w.alloc (.cells #[.int .i64 x, .int .i64 y] 48)

theorem span_any (a b : Int) (n : Nat) (w : World) (hn : n ≤ 16384) : Calls Yba.prog 13 #[.int .i64 a, .int .i64 b, .int .i64 n] w (Spans w n) := by
  obtain ⟨x, hx, ex⟩ := span_val a n hn
  obtain ⟨y, hy, ey⟩ := span_val b n hn
  by_cases hxy : y < x
  · go_enter Yba.func13, Yba.ntmps13
    go_wp2
    exact bodyPost_ret (v := .agg #[.int .i64 y, .int .i64 x]) (by simp [results, Yba.results13, go_sem]) rfl ⟨y, x, by omega, by omega, rfl, rfl⟩
  · go_enter Yba.func13, Yba.ntmps13
    go_wp2
    exact bodyPost_ret (v := .agg #[.int .i64 x, .int .i64 y]) (by simp [results, Yba.results13, go_sem]) rfl ⟨x, y, by omega, by omega, rfl, rfl⟩
end Go.Proofs.Ybulkdwba.lawC
