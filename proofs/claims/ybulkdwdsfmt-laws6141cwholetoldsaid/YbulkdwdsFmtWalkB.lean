/-
  FOR 'Rows.LawS6141CWholeToldSaid': the walk of the law itself, for every F.
-/
import Derived.Test.YbulkdwdsFmtWalkA
import Derived.Deep.OwnRows
import Derived.Deep.QuietTactic
import Derived.BigQuiet
import Derived.Deep.CutBlock
import Derived.Deep.DeepCutAuto
namespace Go.Proofs.YbulkdwdsFmt.lawC
open Go.ChangeShapes Go.WideShapes Go.ChangeAt Go.RowKit Go.Extern.Stop Go.Stop Go.Extern Go.Deep
set_option linter.unusedVariables false
attribute [local go_sem] call7 guard fmt0 fmt0r op3_100 op3_100w ptr31 elem31 isError31'

theorem info5 : (Ybaf.prog.info? 5).map (fun i => (i.zero, i.size, i.bytes)) = some (some (.int .u8 0), 1, 1) := by kernel_rfl

def rowB (zs : List Int) : Obj := .cells (zs.map (Value.int .u8)).toArray 5
theorem made_rowB (n : Nat) : Obj.cells (madeCells #[.int .u8 0] n) 5 = rowB (List.replicate n 0) := by
  unfold rowB
  congr 1
  apply Array.toList_inj.1
  rw [toList_madeCells_one]; simp
theorem rowB_cell {w : World} {g : Nat} {zs : List Int} (h : w.heap[g]? = some (rowB zs)) (j : Nat) (hj : j < zs.length) : w.cell? ⟨g, j, none⟩ = some (.int .u8 (zs[j]?.getD 0)) := by
  unfold rowB at h
  rw [cell_of_row w g j _ 5 (0, 0) h]
  simp [hj]
theorem rowB_frozen {w : World} {g : Nat} {zs : List Int} (h : w.heap[g]? = some (rowB zs)) (j : Nat) : w.frozen? ⟨g, j, none⟩ = false := frozen_of_row w g j _ 5 h
theorem rowB_set {w : World} {g : Nat} {zs : List Int} (h : w.heap[g]? = some (rowB zs)) (j : Nat) (x : Int) : (w.setCell ⟨g, j, none⟩ (.int .u8 x)).heap[g]? = some (rowB (zs.set j x)) := by
  unfold rowB at h ⊢
  rw [heap_setCell_same w g j _ 5 _ h]
  congr 2
  apply Array.toList_inj.1
  simp

/-- The copy, its first j laid. -/
def part (zs : List Int) (len j : Nat) : List Int := (zs.take len).take j ++ List.replicate (len - j) 0
theorem part_zero (zs : List Int) (len : Nat) : part zs len 0 = List.replicate len 0 := by unfold part; simp
theorem part_full (zs : List Int) (len : Nat) : part zs len len = zs.take len := by
  unfold part
  rw [List.take_of_length_le (by simp; omega)]; simp
theorem part_len (zs : List Int) (len j : Nat) (h : len ≤ zs.length) (hj : j ≤ len) : (part zs len j).length = len := by unfold part; simp; omega
theorem part_set (zs : List Int) (len j : Nat) (h : len ≤ zs.length) (hj : j < len) : (part zs len j).set j (zs[j]?.getD 0) = part zs len (j + 1) := by
  apply List.ext_getElem?
  intro i
  unfold part
  rw [List.getElem?_set]
  by_cases hij : j = i
  · subst hij
    rw [if_pos rfl, if_pos (by simp; omega), List.getElem?_append_left (by simp; omega)]
    simp [hj, show j < zs.length by omega]
  · rw [if_neg hij]
    by_cases h2 : i < j
    · rw [List.getElem?_append_left (by simp; omega), List.getElem?_append_left (by simp; omega)]
      simp [List.getElem?_take, h2, show i < j + 1 by omega]
    · rw [List.getElem?_append_right (by simp; omega), List.getElem?_append_right (by simp; omega)]
      simp only [List.getElem?_replicate, List.length_take]
      split <;> split <;> first | rfl | omega

/-- What the walk is told of the data. -/
def InB (w : World) (sa : Option Addr) (len : Nat) (zs : List Int) : Prop :=
  len ≤ zs.length ∧ (0 < len → ∃ b off, sa = some ⟨b, off, none⟩ ∧ b < w.heap.size ∧ ∀ j, j < len → w.cell? ⟨b, off + j, none⟩ = some (.int .u8 (zs[j]?.getD 0)))

/-- What stands behind 'end': the copy in block G, the decoder in block D, the old memory as it was. -/
structure Fin (w : World) (G D : Nat) (sa : Option Addr) (len cap : Nat) (zs : List Int) (e : Value) (h : World) : Prop where
  row : h.heap[G]? = some (rowB (zs.take len))
  dec : h.heap[D]? = some (.cells #[.slice sa len cap, e] 28)
  bel : Below w.heap.size w h

set_option maxRecDepth 100000 in
set_option maxHeartbeats 1000000 in
theorem law_walk (F : Interp) (sa : Option Addr) (len cap : Nat) (zs : List Int) (u : Int) (w : World) (hF : F.answers w.tape) (hl : len ≤ 1048576) (hin : InB w sa len zs) (hu0 : 0 ≤ u) (hu1 : u ≤ 255) :
    Calls Ybaf.prog 3 #[.slice sa len cap, .int .u8 u] w fun e w' => e = .returned (.bool true) ∧ Below w.heap.size w w' := by
  obtain ⟨hzl, hsa⟩ := hin
  have hmk := fun wx => run_make_row' (P := Ybaf.prog) 22 5 (.int .u8 0) 1 Ybaf.underlying22 info5 rfl .i64 .i64 len (by omega) (by omega) wx
  go_enter Ybaf.func3, Ybaf.ntmps3
  go_wp2
  rw [made_rowB]
  go_loopw [6] (fun i wr => ∃ j : Nat, j ≤ len ∧ i = .int .i64 j ∧ wr.heap[w.heap.size]? = some (rowB (part zs len j)) ∧ Below w.heap.size w wr) (fun i _ => len - (intOf i).toNat)
  case atStart => exact ⟨0, Nat.zero_le _, rfl, by rw [part_zero]; exact heap_alloc_new _ _, (Below.refl _ _).alloc (Nat.le_refl _) _⟩
  case round =>
    obtain ⟨j, hj, rfl, hrow, hbel⟩ := hrel
    by_cases hjl : j < len
    · obtain ⟨b, off, rfl, hlt, hc⟩ := hsa (by omega)
      have hcj : wr.cell? ⟨b, off + j, none⟩ = some (.int .u8 (zs[j]?.getD 0)) := by rw [hbel.cell (by exact hlt)]; exact hc j hjl
      have hpl := part_len zs len j hzl hj
      have hcw := rowB_cell hrow j (by omega)
      have hfw := rowB_frozen hrow j
      clear hmk
      go_wp2
      go_roundw
      case rel => exact ⟨j + 1, by omega, by go_num, by rw [← part_set zs len j hzl hjl]; exact rowB_set hrow j _, hbel.setCell (Nat.le_refl _) _⟩
      case measure => simp [intOf]; omega
    · obtain rfl : j = len := by omega
      rw [part_full] at hrow
      have hGl := lt_of_some hrow
      clear hmk
      by_cases hodd : u % 2 = 1
      · go_wp2_with fail
        refine (new_any _ _).mono ?_
        rintro e w1 ⟨rfl, hw1⟩
        have hb1 : Below w.heap.size w w1 := by rw [hw1]; exact hbel.alloc (by omega) _
        have hr1 : w1.heap[w.heap.size]? = some (rowB (zs.take j)) := by rw [hw1, Below.heap_alloc _ _ _ hGl]; exact hrow
        obtain ⟨a, ha⟩ : ∃ a : Addr, a = ⟨wr.heap.size, 0, none⟩ := ⟨_, rfl⟩
        rw [← ha]
        have hz1 := hb1.size
        have hG1 := lt_of_some hr1
        clear hw1 ha hrow hbel hGl
        go_wp2_with fail
        refine (end_err w1.heap.size (.slice sa j cap) a _ (heap_alloc_new _ _)).mono ?_
        rintro e w3 ⟨rfl, hw3⟩
        have hfin : Fin w w.heap.size w1.heap.size sa j cap zs (.iface 31 (.pointer (some a))) w3 := by
          rw [hw3]
          exact ⟨by rw [Below.heap_alloc _ _ _ hG1]; exact hr1, heap_alloc_new _ _, hb1.alloc (by omega) _⟩
        clear hw3 hb1 hr1
        have hpp := fun wx => run_eql_iface_ptr_same (P := Ybaf.prog) wx (te := 33) a Ybaf.underlying24 Ybaf.underlying31 (i := Ybaf.t31) (j := Ybaf.t33) rfl rfl rfl
        obtain ⟨d0, d1, _⟩ := two_cells hfin.dec
        go_wp2
        go_loopw [10] (fun i wx => ∃ k : Nat, k ≤ j ∧ i = .int .i64 k ∧ ∃ q, wx = w3.drewN q) (fun i _ => j - (intOf i).toNat)
        case atStart => exact ⟨0, Nat.zero_le _, rfl, 0, rfl⟩
        case round =>
          obtain ⟨k, hk, rfl, q, rfl⟩ := hrel
          by_cases hkj : k < j
          · obtain ⟨b, off, rfl, hlt, hc⟩ := hsa (by omega)
            have h1 : w3.cell? ⟨b, off + k, none⟩ = some (.int .u8 (zs[k]?.getD 0)) := by rw [hfin.bel.cell (by exact hlt)]; exact hc k hkj
            have h2 := rowB_cell hfin.row k (by rw [List.length_take]; omega)
            rw [List.getElem?_take, if_pos hkj] at h2
            go_wp2
            go_quiet (fail)
            go_wp2
            go_roundw
            case rel => exact ⟨k + 1, by omega, by go_num, _, by first | rfl | exact World.drewN_drewN _ _ _⟩
            case measure => simp [intOf]; omega
          · obtain rfl : k = j := by omega
            go_wp2
            go_ret
            exact ⟨rfl, ⟨hfin.bel.os, hfin.bel.tape, hfin.bel.output, hfin.bel.size, hfin.bel.block⟩⟩
      · have hev : u % 2 = 0 := by omega
        clear hodd
        by_cases hj0 : 0 < j
        · go_wp2_with fail
          refine (end_left F wr.heap.size sa j cap _ (by show F.answers wr.tape; rw [hbel.tape]; exact hF) (by omega) (heap_alloc_new _ _)).mono ?_
          rintro e w3 ⟨a, rfl, hd3, hg3⟩
          have hsz := hbel.size
          have hfin : Fin w w.heap.size wr.heap.size sa j cap zs (.iface 31 (.pointer (some a))) w3 := by
            refine ⟨?_, hd3, ?_⟩
            · rw [hg3.block _ (by simp; omega) (by simp; omega), Below.heap_alloc _ _ _ hGl]; exact hrow
            · exact (hbel.alloc (by omega) _).trans ⟨hg3.os, hg3.tape, hg3.output, hg3.size, fun k hk => hg3.block k (by simp; omega) (by simp; omega)⟩
          clear hd3 hg3 hrow hbel
          have hpp := fun wx => run_eql_iface_ptr_same (P := Ybaf.prog) wx (te := 33) a Ybaf.underlying24 Ybaf.underlying31 (i := Ybaf.t31) (j := Ybaf.t33) rfl rfl rfl
          obtain ⟨d0, d1, _⟩ := two_cells hfin.dec
          go_wp2
          go_loopw [10] (fun i wx => ∃ k : Nat, k ≤ j ∧ i = .int .i64 k ∧ ∃ q, wx = w3.drewN q) (fun i _ => j - (intOf i).toNat)
          case atStart => exact ⟨0, Nat.zero_le _, rfl, 0, rfl⟩
          case round =>
            obtain ⟨k, hk, rfl, q, rfl⟩ := hrel
            by_cases hkj : k < j
            · obtain ⟨b, off, rfl, hlt, hc⟩ := hsa (by omega)
              have h1 : w3.cell? ⟨b, off + k, none⟩ = some (.int .u8 (zs[k]?.getD 0)) := by rw [hfin.bel.cell (by exact hlt)]; exact hc k hkj
              have h2 := rowB_cell hfin.row k (by rw [List.length_take]; omega)
              rw [List.getElem?_take, if_pos hkj] at h2
              go_wp2
              go_quiet (fail)
              go_wp2
              go_roundw
              case rel => exact ⟨k + 1, by omega, by go_num, _, by first | rfl | exact World.drewN_drewN _ _ _⟩
              case measure => simp [intOf]; omega
            · obtain rfl : k = j := by omega
              go_wp2
              go_ret
              exact ⟨rfl, ⟨hfin.bel.os, hfin.bel.tape, hfin.bel.output, hfin.bel.size, hfin.bel.block⟩⟩
        · obtain rfl : j = 0 := by omega
          go_wp2_with fail
          refine (end_nil wr.heap.size sa cap _ (heap_alloc_new _ _)).mono ?_
          rintro e w3 ⟨rfl, hw3⟩
          have hsz := hbel.size
          have hfin : Fin w w.heap.size wr.heap.size sa 0 cap zs .nilIface w3 := by
            rw [hw3]
            exact ⟨by rw [Below.heap_alloc _ _ _ hGl]; exact hrow, heap_alloc_new _ _, hbel.alloc (by omega) _⟩
          clear hw3 hrow hbel
          obtain ⟨d0, d1, _⟩ := two_cells hfin.dec
          go_wp2
          refine wp_loop_rounds 1 ?_
          rw [rounds_succ]
          go_wp2
          go_ret
          exact ⟨rfl, hfin.bel⟩

set_option maxRecDepth 100000 in
theorem law_big (sa : Option Addr) (len cap : Nat) (u : Int) (w : World) (h : (1048576 : Int) < (len : Int)) :
    Calls Ybaf.prog 3 #[.slice sa len cap, .int .u8 u] w fun e w' => e = .returned (.bool true) ∧ Below w.heap.size w w' := by
  go_enter Ybaf.func3, Ybaf.ntmps3
  go_wp2
  go_ret
  exact ⟨rfl, Below.refl _ _⟩
end Go.Proofs.YbulkdwdsFmt.lawC
