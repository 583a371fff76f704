/-
  FOR 'Rows.LawS6139BWholeSaid': path.IsAbs, errors.New, checkAbsolute, SetWorkingDir: their contracts.
-/
import Derived.Test.YbulkdwcqRows
import Derived.WalkKit
import Derived.ProofKit
import Derived.Below
import Derived.WalkLawsBesides
import Derived.Stop.IfaceNil
namespace Go.Proofs.Ybulkdwcq.lawB
open Go.ChangeShapes Go.WideShapes Go.ChangeAt Go.RowKit
set_option linter.unusedVariables false

/-- Does a path begin with a slash? -/
def absB (s : ByteArray) : Bool := if h : 0 < s.size then ((s[0].toNat : Int) == 47) else false

theorem abs_any (s : ByteArray) (w : World) : Calls Yba.prog 20 #[.string s] w fun e w' => e = .returned (.bool (absB s)) ∧ w' = w := by
  by_cases h : 0 < s.size
  · have e : absB s = ((s[0].toNat : Int) == 47) := by unfold absB; rw [dif_pos h]
    rw [e]
    clear e
    go_enter Yba.func20, Yba.ntmps20
    go_wp2
    go_ret
    exact ⟨rfl, rfl⟩
  · have e : absB s = false := by unfold absB; rw [dif_neg h]
    rw [e]
    have h0 : s.size = 0 := by omega
    clear e h
    go_enter Yba.func20, Yba.ntmps20
    go_wp2
    go_ret
    exact ⟨rfl, rfl⟩

theorem new_any (s : ByteArray) (w : World) : Calls Yba.prog 21 #[.string s] w fun e w' => e = .returned (.iface 68 (.pointer (some ⟨w.heap.size, 0, none⟩))) ∧ w' = w.alloc (.cells #[.string s] 70) := by
  go_enter Yba.func21, Yba.ntmps21
  go_wp2
  go_ret
  exact ⟨rfl, rfl⟩

theorem check_yes (s : ByteArray) (w : World) (h : absB s = true) : Calls Yba.prog 15 #[.string s] w fun e w' => e = .returned .nilIface ∧ w' = w := by
  go_enter Yba.func15, Yba.ntmps15
  go_wp2_with (go_at_call 20; refine (abs_any _ _).mono ?_; rintro e w' ⟨rfl, rfl⟩)
  go_ret
  exact ⟨rfl, rfl⟩
theorem check_no (s : ByteArray) (w : World) (h : absB s = false) : Calls Yba.prog 15 #[.string s] w fun e w' => (∃ a : Addr, e = .returned (.iface 68 (.pointer (some a)))) ∧ Below w.heap.size w w' := by
  go_enter Yba.func15, Yba.ntmps15
  go_wp2_with (first | (go_at_call 20; refine (abs_any _ _).mono ?_; rintro e w' ⟨rfl, rfl⟩) | (go_at_call 21; refine (new_any _ _).mono ?_; rintro e w' ⟨rfl, rfl⟩))
  go_ret
  exact ⟨⟨_, rfl⟩, (Below.refl _ _).alloc (Nat.le_refl _) _⟩

/-- The cells of a RunConfig. -/
def boxR (u p e n c h v d l : Value) : Obj := .cells #[u, p, e, n, c, h, v, d, l] 31
theorem boxR_cell {w : World} {R : Nat} {u p e n c h v d l : Value} (hr : w.heap[R]? = some (boxR u p e n c h v d l)) :
    w.cell? ⟨R, 0, none⟩ = some u ∧ w.cell? ⟨R, 1, none⟩ = some p ∧ w.cell? ⟨R, 2, none⟩ = some e ∧ w.cell? ⟨R, 3, none⟩ = some n ∧ w.cell? ⟨R, 4, none⟩ = some c ∧ w.cell? ⟨R, 5, none⟩ = some h ∧ w.cell? ⟨R, 6, none⟩ = some v ∧
    w.cell? ⟨R, 7, none⟩ = some d ∧ w.cell? ⟨R, 8, none⟩ = some l ∧ ∀ o, w.frozen? ⟨R, o, none⟩ = false := by
  unfold boxR at hr
  have k : ∀ f : Nat, w.cell? ⟨R, f, none⟩ = #[u, p, e, n, c, h, v, d, l][f]? := fun f => cell_of_row w R f _ 31 (0, 0) hr
  exact ⟨k 0, k 1, k 2, k 3, k 4, k 5, k 6, k 7, k 8, fun o => frozen_of_row w R o _ 31 hr⟩

theorem swd_yes (R : Nat) (u p e n c h v l : Value) (d s : ByteArray) (w : World) (ha : absB s = true) (hr : w.heap[R]? = some (boxR u p e n c h v (.string d) l)) :
    Calls Yba.prog 6 #[.pointer (some ⟨R, 0, none⟩), .string s] w fun ee w' => ee = .returned .nilIface ∧ w'.heap[R]? = some (boxR u p e n c h v (.string s) l) ∧ w.grownBy w' (some R) := by
  obtain ⟨_, _, _, _, _, _, _, c7, _, hf⟩ := boxR_cell hr
  have f7 := hf 7
  clear hf
  go_enter Yba.func6, Yba.ntmps6
  go_wp2_with (go_at_call 15; refine (check_yes _ _ ha).mono ?_; rintro e w' ⟨rfl, rfl⟩)
  go_ret
  refine ⟨rfl, ?_, ⟨rfl, rfl, rfl, by simp, fun k hk hne => ?_⟩⟩
  · unfold boxR at hr ⊢
    rw [heap_setCell_same _ R 7 _ 31 _ hr]; rfl
  · exact heap_setCell_other _ _ _ _ (fun e => hne (by rw [show k = R from e]))
theorem swd_no (R : Nat) (s : ByteArray) (w : World) (ha : absB s = false) :
    Calls Yba.prog 6 #[.pointer (some ⟨R, 0, none⟩), .string s] w fun ee w' => (∃ a : Addr, ee = .returned (.iface 68 (.pointer (some a)))) ∧ Below w.heap.size w w' := by
  go_enter Yba.func6, Yba.ntmps6
  go_wp2_with (go_at_call 15; refine (check_no _ _ ha).mono ?_; rintro e w' ⟨⟨a, rfl⟩, hb⟩)
  go_ret
  exact ⟨⟨_, rfl⟩, hb⟩
end Go.Proofs.Ybulkdwcq.lawB
