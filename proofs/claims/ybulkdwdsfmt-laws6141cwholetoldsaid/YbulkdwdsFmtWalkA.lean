/-
  FOR 'Rows.LawS6141CWholeToldSaid': closed facts on fmt's stopped front, and the walks of errors.New, fmt.Errorf and (*decoder).end. For every F: the text plays no part.
-/
import Derived.Test.YbulkdwdsFmtCards
import Derived.WalkKit
import Derived.ProofKit
import Derived.Below
import Derived.Stop.CallBack
import Derived.Stop.IfaceNil
import Derived.WalkLawsBesides
import Derived.LaidEql
namespace Go.Proofs.YbulkdwdsFmt.lawC
open Go.ChangeShapes Go.WideShapes Go.ChangeAt Go.RowKit Go.Extern.Stop Go.Stop Go.Extern
set_option linter.unusedVariables false

theorem call7 (args : Array Value) (w : World) : (callFunc 7 args).run Ybaf.prog w = ((FmtStop.errorf #[9, 35] #[24] args).run Ybaf.prog w).andThen fun v w' => .ok (.value v) w' :=
  run_callFunc_extern Ybaf.func7 (by kernel_rfl) (by kernel_rfl) (by kernel_rfl) (by kernel_rfl) args w
theorem guard (name : String) (w : World) : (FmtStop.guard name).run Ybaf.prog w = .ok () w := by kernel_rfl
theorem fmt0 : FmtStop.printed? ⟨#[37, 100, 32, 98, 121, 116, 101, 115, 32, 108, 101, 102, 116, 32, 111, 118, 101, 114]⟩ 1 = some [(0, 100, false)] := by kernel_rfl
theorem fmt0r (w : World) : (FmtDoors.printed ⟨#[37, 100, 32, 98, 121, 116, 101, 115, 32, 108, 101, 102, 116, 32, 111, 118, 101, 114]⟩ 1).run Ybaf.prog w = .ok [(0, 100, false)] w := by kernel_rfl
def shape3 : List UInt8 := [5, 3, 0, 0, 0, 0, 0, 0, 0, 105, 110, 116]
theorem op3_100 (name : String) (x : Int) (w : World) : (FmtStop.operand name false 100 false (.iface 3 (.int .i64 x))).run Ybaf.prog w = .ok (shape3, Go.Extern.Stop.digits 8 (x % 2 ^ 64).toNat) w := by kernel_rfl
theorem op3_100w (name : String) (x : Int) (w : World) : (FmtStop.operand name true 100 false (.iface 3 (.int .i64 x))).run Ybaf.prog w = .ok (shape3, Go.Extern.Stop.digits 8 (x % 2 ^ 64).toNat) w := by kernel_rfl
theorem ptr31 (w : World) : (FmtStop.ptrTo "errors.errorString").run Ybaf.prog w = .ok 31 w := by kernel_rfl
theorem elem31 (w : World) : (elemOf 31).run Ybaf.prog w = .ok 33 w := by kernel_rfl
theorem isError31' (w : World) : (FmtDoors.textMethod 31 "Error").run Ybaf.prog w = .ok true w := by kernel_rfl
attribute [local go_sem] call7 guard fmt0 fmt0r op3_100 op3_100w ptr31 elem31 isError31'

theorem new_any (s : ByteArray) (w : World) : Calls Ybaf.prog 4 #[.string s] w fun e w' => e = .returned (.iface 31 (.pointer (some ⟨w.heap.size, 0, none⟩))) ∧ w' = w.alloc (.cells #[.string s] 33) := by
  go_enter Ybaf.func4, Ybaf.ntmps4
  go_wp2
  go_ret
  exact ⟨rfl, rfl⟩

/-- What the left-over error's call leaves: a new error that is not nil. -/
theorem errorf_any (F : Interp) (g : Nat) (n : Int) (w : World) (hF : F.answers w.tape) (hc : w.cell? ⟨g, 0, none⟩ = some (.iface 3 (.int .i64 n))) :
    Calls Ybaf.prog 6 #[.string ⟨#[37, 100, 32, 98, 121, 116, 101, 115, 32, 108, 101, 102, 116, 32, 111, 118, 101, 114]⟩, .slice (some ⟨g, 0, none⟩) 1 1] w fun e w' =>
      e = .returned (.iface 31 (.pointer (some ⟨w.heap.size, 0, none⟩))) ∧ Below w.heap.size w w' := by
  have hF' : ∀ i name reading k range, w.tape i (.extern (word name reading k) range) = F name reading k := hF
  go_enter Ybaf.func6, Ybaf.ntmps6
  go_wp2
  go_ret
  exact ⟨rfl, ((Below.refl _ _).alloc (Nat.le_refl _) _).drew⟩

theorem two_cells {w : World} {D : Nat} {a b : Value} (h : w.heap[D]? = some (.cells #[a, b] 28)) : w.cell? ⟨D, 0, none⟩ = some a ∧ w.cell? ⟨D, 1, none⟩ = some b ∧ w.frozen? ⟨D, 1, none⟩ = false := by
  simp [World.cell?, World.frozen?, h]
theorem lt_of_some {H : Array Obj} {b : Nat} {o : Obj} (hb : H[b]? = some o) : b < H.size := (Array.getElem?_eq_some_iff.1 hb).1

theorem end_err (D : Nat) (v : Value) (a : Addr) (w : World) (hD : w.heap[D]? = some (.cells #[v, .iface 31 (.pointer (some a))] 28)) :
    Calls Ybaf.prog 5 #[.pointer (some ⟨D, 0, none⟩)] w fun e w' => e = .returned (.iface 31 (.pointer (some a))) ∧ w' = w := by
  obtain ⟨c0, c1, f1⟩ := two_cells hD
  clear hD
  go_enter Ybaf.func5, Ybaf.ntmps5
  go_wp2
  go_ret
  exact ⟨rfl, rfl⟩
theorem end_nil (D : Nat) (sa : Option Addr) (cap : Nat) (w : World) (hD : w.heap[D]? = some (.cells #[.slice sa 0 cap, .nilIface] 28)) :
    Calls Ybaf.prog 5 #[.pointer (some ⟨D, 0, none⟩)] w fun e w' => e = .returned .nilIface ∧ w' = w := by
  obtain ⟨c0, c1, f1⟩ := two_cells hD
  clear hD
  go_enter Ybaf.func5, Ybaf.ntmps5
  go_wp2
  go_ret
  exact ⟨rfl, rfl⟩
theorem end_left (F : Interp) (D : Nat) (sa : Option Addr) (len cap : Nat) (w : World) (hF : F.answers w.tape) (hl : (0 : Int) < (len : Int)) (hD : w.heap[D]? = some (.cells #[.slice sa len cap, .nilIface] 28)) :
    Calls Ybaf.prog 5 #[.pointer (some ⟨D, 0, none⟩)] w fun e w' => ∃ a : Addr, e = .returned (.iface 31 (.pointer (some a))) ∧ w'.heap[D]? = some (.cells #[.slice sa len cap, .iface 31 (.pointer (some a))] 28) ∧ w.grownBy w' (some D) := by
  obtain ⟨c0, c1, f1⟩ := two_cells hD
  have hDl := lt_of_some hD
  go_enter Ybaf.func5, Ybaf.ntmps5
  go_wp2_with fail
  refine (errorf_any F w.heap.size len _ (by exact hF) (by simp)).mono ?_
  rintro e w1 ⟨rfl, hb1⟩
  have hb0 : Below w.heap.size w w1 := ((Below.refl _ _).alloc (Nat.le_refl _) _).trans (hb1.mono (by simp))
  have hD1 : w1.heap[D]? = some (.cells #[.slice sa len cap, .nilIface] 28) := (hb0.block _ hDl).trans hD
  obtain ⟨d0, d1, g1⟩ := two_cells hD1
  go_wp2
  go_ret
  refine ⟨_, rfl, ?_, ⟨hb0.os, hb0.tape, hb0.output, by simpa using hb0.size, fun k hk hne => ?_⟩⟩
  · rw [heap_setCell_same _ D 1 _ 28 _ hD1]; rfl
  · rw [heap_setCell_other _ _ _ _ (fun e => hne (by rw [show k = D from e]))]; exact hb0.block k hk
end Go.Proofs.YbulkdwdsFmt.lawC
