/-
  THE PROOF OF 'Rows.LawS6142BWholeSaid' ('example.com/tenon/tenon/values.LawS6142BWhole'): the frame is the seat's shell (proof-skeleton.mjs); the walk is typed for this program.
-/
import Derived.Test.YbulkdwegRows
import Derived.WalkKit
import Derived.ProofKit
import Derived.OpenShut
import Derived.ShutString
import Derived.LaidEql
namespace Go.Proofs.Ybulkdweg.lawS6142BWhole
open Go.ChangeShapes Go.WideShapes Go.ChangeAt Go.RowKit
open Go.ChangeMaps (open_string shut_string)
set_option linter.unusedVariables false      -- a walk need not use every 'w<i>' (that an integer argument fits its kind)

theorem own : ownKnob Yba.prog.godebug = none := by kernel_rfl

/-! ### STEP 0: a pointer against itself, at the four pointer types of 'Refinements' -/
theorem eqp (d : Nat) {t e : TypeId} {j : TypeInfo} (p : Option Addr) (w : World) (hp : Yba.prog.underlying t = some (.pointer e)) (hj : Yba.prog.info? e = some j) :
    (Op.equalIn (d + 1) t (.pointer p) (.pointer p)).run Yba.prog w = .ok true w := by
  cases p with
  | none => simp [Op.equalIn, run_underlying hp]
  | some a => simp [Op.equalIn, run_underlying hp, sizeOf, typeInfo, run_sameAddr_same, hj]
theorem eq23 (p : Option Addr) (w : World) : (Op.equalIn 9999 23 (.pointer p) (.pointer p)).run Yba.prog w = .ok true w := eqp 9998 (e := 4) p w Yba.underlying23 rfl
theorem eq24 (p : Option Addr) (w : World) : (Op.equalIn 9999 24 (.pointer p) (.pointer p)).run Yba.prog w = .ok true w := eqp 9998 (e := 9) p w Yba.underlying24 rfl
theorem eq25 (p : Option Addr) (w : World) : (Op.equalIn 9999 25 (.pointer p) (.pointer p)).run Yba.prog w = .ok true w := eqp 9998 (e := 32) p w Yba.underlying25 rfl
theorem eq26 (p : Option Addr) (w : World) : (Op.equalIn 9999 26 (.pointer p) (.pointer p)).run Yba.prog w = .ok true w := eqp 9998 (e := 22) p w Yba.underlying26 rfl
attribute [local go_sem] eq23 eq24 eq25 eq26

/-! ### STEP 1: THE WALK: the Go text returns true, in each of the 32 ways through its five tests. -/
theorem walk0 (a1 : Int) (a3 : Int) (a5 : Bool) (a7 : ByteArray) (a9 : Bool) (w : World) :
    Calls Yba.prog 3 #[.bool false, .int .u64 a1, .bool false, .int .u64 a3, .bool false, .bool a5, .bool false, .string a7, .bool false, .bool a9] w fun e w' => e = .returned (.bool true) ∧ Grown w w' := by
  go_enter Yba.func3, Yba.ntmps3
  go_wp2
  go_ret
  exact ⟨rfl, by repeat (first | exact Grown.refl _ | apply Grown.drew | apply Grown.alloc)⟩
theorem walk1 (a1 : Int) (a3 : Int) (a5 : Bool) (a7 : ByteArray) (a9 : Bool) (w : World) :
    Calls Yba.prog 3 #[.bool true, .int .u64 a1, .bool false, .int .u64 a3, .bool false, .bool a5, .bool false, .string a7, .bool false, .bool a9] w fun e w' => e = .returned (.bool true) ∧ Grown w w' := by
  go_enter Yba.func3, Yba.ntmps3
  go_wp2
  go_ret
  exact ⟨rfl, by repeat (first | exact Grown.refl _ | apply Grown.drew | apply Grown.alloc)⟩
theorem walk2 (a1 : Int) (a3 : Int) (a5 : Bool) (a7 : ByteArray) (a9 : Bool) (w : World) :
    Calls Yba.prog 3 #[.bool false, .int .u64 a1, .bool true, .int .u64 a3, .bool false, .bool a5, .bool false, .string a7, .bool false, .bool a9] w fun e w' => e = .returned (.bool true) ∧ Grown w w' := by
  go_enter Yba.func3, Yba.ntmps3
  go_wp2
  go_ret
  exact ⟨rfl, by repeat (first | exact Grown.refl _ | apply Grown.drew | apply Grown.alloc)⟩
theorem walk3 (a1 : Int) (a3 : Int) (a5 : Bool) (a7 : ByteArray) (a9 : Bool) (w : World) :
    Calls Yba.prog 3 #[.bool true, .int .u64 a1, .bool true, .int .u64 a3, .bool false, .bool a5, .bool false, .string a7, .bool false, .bool a9] w fun e w' => e = .returned (.bool true) ∧ Grown w w' := by
  go_enter Yba.func3, Yba.ntmps3
  go_wp2
  go_ret
  exact ⟨rfl, by repeat (first | exact Grown.refl _ | apply Grown.drew | apply Grown.alloc)⟩
theorem walk4 (a1 : Int) (a3 : Int) (a5 : Bool) (a7 : ByteArray) (a9 : Bool) (w : World) :
    Calls Yba.prog 3 #[.bool false, .int .u64 a1, .bool false, .int .u64 a3, .bool true, .bool a5, .bool false, .string a7, .bool false, .bool a9] w fun e w' => e = .returned (.bool true) ∧ Grown w w' := by
  go_enter Yba.func3, Yba.ntmps3
  go_wp2
  go_ret
  exact ⟨rfl, by repeat (first | exact Grown.refl _ | apply Grown.drew | apply Grown.alloc)⟩
theorem walk5 (a1 : Int) (a3 : Int) (a5 : Bool) (a7 : ByteArray) (a9 : Bool) (w : World) :
    Calls Yba.prog 3 #[.bool true, .int .u64 a1, .bool false, .int .u64 a3, .bool true, .bool a5, .bool false, .string a7, .bool false, .bool a9] w fun e w' => e = .returned (.bool true) ∧ Grown w w' := by
  go_enter Yba.func3, Yba.ntmps3
  go_wp2
  go_ret
  exact ⟨rfl, by repeat (first | exact Grown.refl _ | apply Grown.drew | apply Grown.alloc)⟩
theorem walk6 (a1 : Int) (a3 : Int) (a5 : Bool) (a7 : ByteArray) (a9 : Bool) (w : World) :
    Calls Yba.prog 3 #[.bool false, .int .u64 a1, .bool true, .int .u64 a3, .bool true, .bool a5, .bool false, .string a7, .bool false, .bool a9] w fun e w' => e = .returned (.bool true) ∧ Grown w w' := by
  go_enter Yba.func3, Yba.ntmps3
  go_wp2
  go_ret
  exact ⟨rfl, by repeat (first | exact Grown.refl _ | apply Grown.drew | apply Grown.alloc)⟩
theorem walk7 (a1 : Int) (a3 : Int) (a5 : Bool) (a7 : ByteArray) (a9 : Bool) (w : World) :
    Calls Yba.prog 3 #[.bool true, .int .u64 a1, .bool true, .int .u64 a3, .bool true, .bool a5, .bool false, .string a7, .bool false, .bool a9] w fun e w' => e = .returned (.bool true) ∧ Grown w w' := by
  go_enter Yba.func3, Yba.ntmps3
  go_wp2
  go_ret
  exact ⟨rfl, by repeat (first | exact Grown.refl _ | apply Grown.drew | apply Grown.alloc)⟩
theorem walk8 (a1 : Int) (a3 : Int) (a5 : Bool) (a7 : ByteArray) (a9 : Bool) (w : World) :
    Calls Yba.prog 3 #[.bool false, .int .u64 a1, .bool false, .int .u64 a3, .bool false, .bool a5, .bool true, .string a7, .bool false, .bool a9] w fun e w' => e = .returned (.bool true) ∧ Grown w w' := by
  go_enter Yba.func3, Yba.ntmps3
  go_wp2
  go_ret
  exact ⟨rfl, by repeat (first | exact Grown.refl _ | apply Grown.drew | apply Grown.alloc)⟩
theorem walk9 (a1 : Int) (a3 : Int) (a5 : Bool) (a7 : ByteArray) (a9 : Bool) (w : World) :
    Calls Yba.prog 3 #[.bool true, .int .u64 a1, .bool false, .int .u64 a3, .bool false, .bool a5, .bool true, .string a7, .bool false, .bool a9] w fun e w' => e = .returned (.bool true) ∧ Grown w w' := by
  go_enter Yba.func3, Yba.ntmps3
  go_wp2
  go_ret
  exact ⟨rfl, by repeat (first | exact Grown.refl _ | apply Grown.drew | apply Grown.alloc)⟩
theorem walk10 (a1 : Int) (a3 : Int) (a5 : Bool) (a7 : ByteArray) (a9 : Bool) (w : World) :
    Calls Yba.prog 3 #[.bool false, .int .u64 a1, .bool true, .int .u64 a3, .bool false, .bool a5, .bool true, .string a7, .bool false, .bool a9] w fun e w' => e = .returned (.bool true) ∧ Grown w w' := by
  go_enter Yba.func3, Yba.ntmps3
  go_wp2
  go_ret
  exact ⟨rfl, by repeat (first | exact Grown.refl _ | apply Grown.drew | apply Grown.alloc)⟩
theorem walk11 (a1 : Int) (a3 : Int) (a5 : Bool) (a7 : ByteArray) (a9 : Bool) (w : World) :
    Calls Yba.prog 3 #[.bool true, .int .u64 a1, .bool true, .int .u64 a3, .bool false, .bool a5, .bool true, .string a7, .bool false, .bool a9] w fun e w' => e = .returned (.bool true) ∧ Grown w w' := by
  go_enter Yba.func3, Yba.ntmps3
  go_wp2
  go_ret
  exact ⟨rfl, by repeat (first | exact Grown.refl _ | apply Grown.drew | apply Grown.alloc)⟩
theorem walk12 (a1 : Int) (a3 : Int) (a5 : Bool) (a7 : ByteArray) (a9 : Bool) (w : World) :
    Calls Yba.prog 3 #[.bool false, .int .u64 a1, .bool false, .int .u64 a3, .bool true, .bool a5, .bool true, .string a7, .bool false, .bool a9] w fun e w' => e = .returned (.bool true) ∧ Grown w w' := by
  go_enter Yba.func3, Yba.ntmps3
  go_wp2
  go_ret
  exact ⟨rfl, by repeat (first | exact Grown.refl _ | apply Grown.drew | apply Grown.alloc)⟩
theorem walk13 (a1 : Int) (a3 : Int) (a5 : Bool) (a7 : ByteArray) (a9 : Bool) (w : World) :
    Calls Yba.prog 3 #[.bool true, .int .u64 a1, .bool false, .int .u64 a3, .bool true, .bool a5, .bool true, .string a7, .bool false, .bool a9] w fun e w' => e = .returned (.bool true) ∧ Grown w w' := by
  go_enter Yba.func3, Yba.ntmps3
  go_wp2
  go_ret
  exact ⟨rfl, by repeat (first | exact Grown.refl _ | apply Grown.drew | apply Grown.alloc)⟩
theorem walk14 (a1 : Int) (a3 : Int) (a5 : Bool) (a7 : ByteArray) (a9 : Bool) (w : World) :
    Calls Yba.prog 3 #[.bool false, .int .u64 a1, .bool true, .int .u64 a3, .bool true, .bool a5, .bool true, .string a7, .bool false, .bool a9] w fun e w' => e = .returned (.bool true) ∧ Grown w w' := by
  go_enter Yba.func3, Yba.ntmps3
  go_wp2
  go_ret
  exact ⟨rfl, by repeat (first | exact Grown.refl _ | apply Grown.drew | apply Grown.alloc)⟩
theorem walk15 (a1 : Int) (a3 : Int) (a5 : Bool) (a7 : ByteArray) (a9 : Bool) (w : World) :
    Calls Yba.prog 3 #[.bool true, .int .u64 a1, .bool true, .int .u64 a3, .bool true, .bool a5, .bool true, .string a7, .bool false, .bool a9] w fun e w' => e = .returned (.bool true) ∧ Grown w w' := by
  go_enter Yba.func3, Yba.ntmps3
  go_wp2
  go_ret
  exact ⟨rfl, by repeat (first | exact Grown.refl _ | apply Grown.drew | apply Grown.alloc)⟩
theorem walk16 (a1 : Int) (a3 : Int) (a5 : Bool) (a7 : ByteArray) (a9 : Bool) (w : World) :
    Calls Yba.prog 3 #[.bool false, .int .u64 a1, .bool false, .int .u64 a3, .bool false, .bool a5, .bool false, .string a7, .bool true, .bool a9] w fun e w' => e = .returned (.bool true) ∧ Grown w w' := by
  go_enter Yba.func3, Yba.ntmps3
  go_wp2
  go_ret
  exact ⟨rfl, by repeat (first | exact Grown.refl _ | apply Grown.drew | apply Grown.alloc)⟩
theorem walk17 (a1 : Int) (a3 : Int) (a5 : Bool) (a7 : ByteArray) (a9 : Bool) (w : World) :
    Calls Yba.prog 3 #[.bool true, .int .u64 a1, .bool false, .int .u64 a3, .bool false, .bool a5, .bool false, .string a7, .bool true, .bool a9] w fun e w' => e = .returned (.bool true) ∧ Grown w w' := by
  go_enter Yba.func3, Yba.ntmps3
  go_wp2
  go_ret
  exact ⟨rfl, by repeat (first | exact Grown.refl _ | apply Grown.drew | apply Grown.alloc)⟩
theorem walk18 (a1 : Int) (a3 : Int) (a5 : Bool) (a7 : ByteArray) (a9 : Bool) (w : World) :
    Calls Yba.prog 3 #[.bool false, .int .u64 a1, .bool true, .int .u64 a3, .bool false, .bool a5, .bool false, .string a7, .bool true, .bool a9] w fun e w' => e = .returned (.bool true) ∧ Grown w w' := by
  go_enter Yba.func3, Yba.ntmps3
  go_wp2
  go_ret
  exact ⟨rfl, by repeat (first | exact Grown.refl _ | apply Grown.drew | apply Grown.alloc)⟩
theorem walk19 (a1 : Int) (a3 : Int) (a5 : Bool) (a7 : ByteArray) (a9 : Bool) (w : World) :
    Calls Yba.prog 3 #[.bool true, .int .u64 a1, .bool true, .int .u64 a3, .bool false, .bool a5, .bool false, .string a7, .bool true, .bool a9] w fun e w' => e = .returned (.bool true) ∧ Grown w w' := by
  go_enter Yba.func3, Yba.ntmps3
  go_wp2
  go_ret
  exact ⟨rfl, by repeat (first | exact Grown.refl _ | apply Grown.drew | apply Grown.alloc)⟩
theorem walk20 (a1 : Int) (a3 : Int) (a5 : Bool) (a7 : ByteArray) (a9 : Bool) (w : World) :
    Calls Yba.prog 3 #[.bool false, .int .u64 a1, .bool false, .int .u64 a3, .bool true, .bool a5, .bool false, .string a7, .bool true, .bool a9] w fun e w' => e = .returned (.bool true) ∧ Grown w w' := by
  go_enter Yba.func3, Yba.ntmps3
  go_wp2
  go_ret
  exact ⟨rfl, by repeat (first | exact Grown.refl _ | apply Grown.drew | apply Grown.alloc)⟩
theorem walk21 (a1 : Int) (a3 : Int) (a5 : Bool) (a7 : ByteArray) (a9 : Bool) (w : World) :
    Calls Yba.prog 3 #[.bool true, .int .u64 a1, .bool false, .int .u64 a3, .bool true, .bool a5, .bool false, .string a7, .bool true, .bool a9] w fun e w' => e = .returned (.bool true) ∧ Grown w w' := by
  go_enter Yba.func3, Yba.ntmps3
  go_wp2
  go_ret
  exact ⟨rfl, by repeat (first | exact Grown.refl _ | apply Grown.drew | apply Grown.alloc)⟩
theorem walk22 (a1 : Int) (a3 : Int) (a5 : Bool) (a7 : ByteArray) (a9 : Bool) (w : World) :
    Calls Yba.prog 3 #[.bool false, .int .u64 a1, .bool true, .int .u64 a3, .bool true, .bool a5, .bool false, .string a7, .bool true, .bool a9] w fun e w' => e = .returned (.bool true) ∧ Grown w w' := by
  go_enter Yba.func3, Yba.ntmps3
  go_wp2
  go_ret
  exact ⟨rfl, by repeat (first | exact Grown.refl _ | apply Grown.drew | apply Grown.alloc)⟩
theorem walk23 (a1 : Int) (a3 : Int) (a5 : Bool) (a7 : ByteArray) (a9 : Bool) (w : World) :
    Calls Yba.prog 3 #[.bool true, .int .u64 a1, .bool true, .int .u64 a3, .bool true, .bool a5, .bool false, .string a7, .bool true, .bool a9] w fun e w' => e = .returned (.bool true) ∧ Grown w w' := by
  go_enter Yba.func3, Yba.ntmps3
  go_wp2
  go_ret
  exact ⟨rfl, by repeat (first | exact Grown.refl _ | apply Grown.drew | apply Grown.alloc)⟩
theorem walk24 (a1 : Int) (a3 : Int) (a5 : Bool) (a7 : ByteArray) (a9 : Bool) (w : World) :
    Calls Yba.prog 3 #[.bool false, .int .u64 a1, .bool false, .int .u64 a3, .bool false, .bool a5, .bool true, .string a7, .bool true, .bool a9] w fun e w' => e = .returned (.bool true) ∧ Grown w w' := by
  go_enter Yba.func3, Yba.ntmps3
  go_wp2
  go_ret
  exact ⟨rfl, by repeat (first | exact Grown.refl _ | apply Grown.drew | apply Grown.alloc)⟩
theorem walk25 (a1 : Int) (a3 : Int) (a5 : Bool) (a7 : ByteArray) (a9 : Bool) (w : World) :
    Calls Yba.prog 3 #[.bool true, .int .u64 a1, .bool false, .int .u64 a3, .bool false, .bool a5, .bool true, .string a7, .bool true, .bool a9] w fun e w' => e = .returned (.bool true) ∧ Grown w w' := by
  go_enter Yba.func3, Yba.ntmps3
  go_wp2
  go_ret
  exact ⟨rfl, by repeat (first | exact Grown.refl _ | apply Grown.drew | apply Grown.alloc)⟩
theorem walk26 (a1 : Int) (a3 : Int) (a5 : Bool) (a7 : ByteArray) (a9 : Bool) (w : World) :
    Calls Yba.prog 3 #[.bool false, .int .u64 a1, .bool true, .int .u64 a3, .bool false, .bool a5, .bool true, .string a7, .bool true, .bool a9] w fun e w' => e = .returned (.bool true) ∧ Grown w w' := by
  go_enter Yba.func3, Yba.ntmps3
  go_wp2
  go_ret
  exact ⟨rfl, by repeat (first | exact Grown.refl _ | apply Grown.drew | apply Grown.alloc)⟩
theorem walk27 (a1 : Int) (a3 : Int) (a5 : Bool) (a7 : ByteArray) (a9 : Bool) (w : World) :
    Calls Yba.prog 3 #[.bool true, .int .u64 a1, .bool true, .int .u64 a3, .bool false, .bool a5, .bool true, .string a7, .bool true, .bool a9] w fun e w' => e = .returned (.bool true) ∧ Grown w w' := by
  go_enter Yba.func3, Yba.ntmps3
  go_wp2
  go_ret
  exact ⟨rfl, by repeat (first | exact Grown.refl _ | apply Grown.drew | apply Grown.alloc)⟩
theorem walk28 (a1 : Int) (a3 : Int) (a5 : Bool) (a7 : ByteArray) (a9 : Bool) (w : World) :
    Calls Yba.prog 3 #[.bool false, .int .u64 a1, .bool false, .int .u64 a3, .bool true, .bool a5, .bool true, .string a7, .bool true, .bool a9] w fun e w' => e = .returned (.bool true) ∧ Grown w w' := by
  go_enter Yba.func3, Yba.ntmps3
  go_wp2
  go_ret
  exact ⟨rfl, by repeat (first | exact Grown.refl _ | apply Grown.drew | apply Grown.alloc)⟩
theorem walk29 (a1 : Int) (a3 : Int) (a5 : Bool) (a7 : ByteArray) (a9 : Bool) (w : World) :
    Calls Yba.prog 3 #[.bool true, .int .u64 a1, .bool false, .int .u64 a3, .bool true, .bool a5, .bool true, .string a7, .bool true, .bool a9] w fun e w' => e = .returned (.bool true) ∧ Grown w w' := by
  go_enter Yba.func3, Yba.ntmps3
  go_wp2
  go_ret
  exact ⟨rfl, by repeat (first | exact Grown.refl _ | apply Grown.drew | apply Grown.alloc)⟩
theorem walk30 (a1 : Int) (a3 : Int) (a5 : Bool) (a7 : ByteArray) (a9 : Bool) (w : World) :
    Calls Yba.prog 3 #[.bool false, .int .u64 a1, .bool true, .int .u64 a3, .bool true, .bool a5, .bool true, .string a7, .bool true, .bool a9] w fun e w' => e = .returned (.bool true) ∧ Grown w w' := by
  go_enter Yba.func3, Yba.ntmps3
  go_wp2
  go_ret
  exact ⟨rfl, by repeat (first | exact Grown.refl _ | apply Grown.drew | apply Grown.alloc)⟩
theorem walk31 (a1 : Int) (a3 : Int) (a5 : Bool) (a7 : ByteArray) (a9 : Bool) (w : World) :
    Calls Yba.prog 3 #[.bool true, .int .u64 a1, .bool true, .int .u64 a3, .bool true, .bool a5, .bool true, .string a7, .bool true, .bool a9] w fun e w' => e = .returned (.bool true) ∧ Grown w w' := by
  go_enter Yba.func3, Yba.ntmps3
  go_wp2
  go_ret
  exact ⟨rfl, by repeat (first | exact Grown.refl _ | apply Grown.drew | apply Grown.alloc)⟩
theorem walk (a0 : Bool) (a1 : Int) (a2 : Bool) (a3 : Int) (a4 : Bool) (a5 : Bool) (a6 : Bool) (a7 : ByteArray) (a8 : Bool) (a9 : Bool) (w1 : (Lit.int .u64 a1).wf = true) (w3 : (Lit.int .u64 a3).wf = true) (w7 : a7.size ≤ maxLen) (w : World) :
    Calls Yba.prog 3 #[.bool a0, .int .u64 a1, .bool a2, .int .u64 a3, .bool a4, .bool a5, .bool a6, .string a7, .bool a8, .bool a9] w fun e w' => e = .returned (.bool true) ∧ Grown w w' := by
  cases a0 <;> cases a2 <;> cases a4 <;> cases a6 <;> cases a8
  · exact walk0 a1 a3 a5 a7 a9 w
  · exact walk16 a1 a3 a5 a7 a9 w
  · exact walk8 a1 a3 a5 a7 a9 w
  · exact walk24 a1 a3 a5 a7 a9 w
  · exact walk4 a1 a3 a5 a7 a9 w
  · exact walk20 a1 a3 a5 a7 a9 w
  · exact walk12 a1 a3 a5 a7 a9 w
  · exact walk28 a1 a3 a5 a7 a9 w
  · exact walk2 a1 a3 a5 a7 a9 w
  · exact walk18 a1 a3 a5 a7 a9 w
  · exact walk10 a1 a3 a5 a7 a9 w
  · exact walk26 a1 a3 a5 a7 a9 w
  · exact walk6 a1 a3 a5 a7 a9 w
  · exact walk22 a1 a3 a5 a7 a9 w
  · exact walk14 a1 a3 a5 a7 a9 w
  · exact walk30 a1 a3 a5 a7 a9 w
  · exact walk1 a1 a3 a5 a7 a9 w
  · exact walk17 a1 a3 a5 a7 a9 w
  · exact walk9 a1 a3 a5 a7 a9 w
  · exact walk25 a1 a3 a5 a7 a9 w
  · exact walk5 a1 a3 a5 a7 a9 w
  · exact walk21 a1 a3 a5 a7 a9 w
  · exact walk13 a1 a3 a5 a7 a9 w
  · exact walk29 a1 a3 a5 a7 a9 w
  · exact walk3 a1 a3 a5 a7 a9 w
  · exact walk19 a1 a3 a5 a7 a9 w
  · exact walk11 a1 a3 a5 a7 a9 w
  · exact walk27 a1 a3 a5 a7 a9 w
  · exact walk7 a1 a3 a5 a7 a9 w
  · exact walk23 a1 a3 a5 a7 a9 w
  · exact walk15 a1 a3 a5 a7 a9 w
  · exact walk31 a1 a3 a5 a7 a9 w

/-! ### THE ROW's STEP: WRITTEN OUT: LEAVE IT -/
set_option maxRecDepth 100000 in
theorem lifted (os : Os) (started : os.Started) (H : Type) (enc : TypeId × Value → H) :
    ReturnsInHanded {} Yba.checked os 3 .any (Rows.lawS6142BWholeSpec.pre6 enc Yba.prog Yba.f3 Rows.lawS6142BWholeRow.domain false) (Rows.lawS6142BWholeSpec.post enc Yba.prog Yba.f3 false true false false) := by
  refine returnsInHanded_of_change (C := Yba.checked) own started (by kernel_rfl) Yba.func3
    (ChangeSpec.witness6 (enc := enc) (C := Yba.checked) false ⟨#[], #[.bool false, .int .u64 0, .bool false, .int .u64 0, .bool false, .bool false, .bool false, .string ByteArray.empty, .bool false, .bool false], []⟩ 8 (by kernel_rfl) (by kernel_rfl) (by kernel_rfl) (by kernel_rfl)) ?_
  intro W base args ds gs before hval0 hW hcnd _
  have hval : ∀ (j : Nat) t v, Yba.f3.params[j]? = some t → args[j]? = some v → Value.okWide Yba.prog W .any base t v := hval0
  have hW' := hW
  obtain ⟨p, q, hA0, hV, rfl, hfz, hnd⟩ := hW
  have hA : DataW.TrodAll enc Yba.prog W 0 (fun _ => true) true Yba.f3.params.toList args.toList ds p := hA0
  rw [Yba.params3] at hA hval
  obtain ⟨v0, vs0, d0, ds0, p0, q0, hargs, rfl, rfl, h0, r0⟩ := trodAll_cons hA
  obtain ⟨v1, vs1, d1, ds1, p1, q1, rfl, rfl, rfl, h1, r1⟩ := trodAll_cons r0
  obtain ⟨v2, vs2, d2, ds2, p2, q2, rfl, rfl, rfl, h2, r2⟩ := trodAll_cons r1
  obtain ⟨v3, vs3, d3, ds3, p3, q3, rfl, rfl, rfl, h3, r3⟩ := trodAll_cons r2
  obtain ⟨v4, vs4, d4, ds4, p4, q4, rfl, rfl, rfl, h4, r4⟩ := trodAll_cons r3
  obtain ⟨v5, vs5, d5, ds5, p5, q5, rfl, rfl, rfl, h5, r5⟩ := trodAll_cons r4
  obtain ⟨v6, vs6, d6, ds6, p6, q6, rfl, rfl, rfl, h6, r6⟩ := trodAll_cons r5
  obtain ⟨v7, vs7, d7, ds7, p7, q7, rfl, rfl, rfl, h7, r7⟩ := trodAll_cons r6
  obtain ⟨v8, vs8, d8, ds8, p8, q8, rfl, rfl, rfl, h8, r8⟩ := trodAll_cons r7
  obtain ⟨v9, vs9, d9, ds9, p9, q9, rfl, rfl, rfl, h9, r9⟩ := trodAll_cons r8
  obtain ⟨rfl, rfl, rfl⟩ := trodAll_nil r9
  obtain rfl : args = #[v0, v1, v2, v3, v4, v5, v6, v7, v8, v9] := by cases args; simp_all
  obtain ⟨rfl, rfl⟩ := trodVars_none hV
  obtain ⟨a0, rfl, rfl, rfl⟩ := open_bool Yba.underlying4 (hval 0 4 v0 rfl rfl) h0
  obtain ⟨a1, rfl, rfl, rfl, w1⟩ := open_int Yba.underlying22 (hval 1 22 v1 rfl rfl) h1
  obtain ⟨a2, rfl, rfl, rfl⟩ := open_bool Yba.underlying4 (hval 2 4 v2 rfl rfl) h2
  obtain ⟨a3, rfl, rfl, rfl, w3⟩ := open_int Yba.underlying22 (hval 3 22 v3 rfl rfl) h3
  obtain ⟨a4, rfl, rfl, rfl⟩ := open_bool Yba.underlying4 (hval 4 4 v4 rfl rfl) h4
  obtain ⟨a5, rfl, rfl, rfl⟩ := open_bool Yba.underlying4 (hval 5 4 v5 rfl rfl) h5
  obtain ⟨a6, rfl, rfl, rfl⟩ := open_bool Yba.underlying4 (hval 6 4 v6 rfl rfl) h6
  obtain ⟨a7, rfl, rfl, rfl, w7⟩ := open_string Yba.underlying9 (hval 7 9 v7 rfl rfl) h7
  obtain ⟨a8, rfl, rfl, rfl⟩ := open_bool Yba.underlying4 (hval 8 4 v8 rfl rfl) h8
  obtain ⟨a9, rfl, rfl, rfl⟩ := open_bool Yba.underlying4 (hval 9 4 v9 rfl rfl) h9
  clear hA0 hval0
  simp only [List.append_nil] at hW'
  refine (walk a0 a1 a2 a3 a4 a5 a6 a7 a8 a9 w1 w3 w7 W).mono fun e W' ⟨he, hg⟩ => ?_
  subst he
  exact ⟨_, rfl, post_of_same (pa := []) (pv := []) hW' (fun _ _ _ => (trodAll_cons_mk (shut_bool Yba.underlying4 _) trodAll_mk0)) (fun sp _ => (trodAll_cons_mk (shut_bool Yba.underlying4 _) (trodAll_cons_mk (shut_int Yba.underlying22 w1) (trodAll_cons_mk (shut_bool Yba.underlying4 _) (trodAll_cons_mk (shut_int Yba.underlying22 w3) (trodAll_cons_mk (shut_bool Yba.underlying4 _) (trodAll_cons_mk (shut_bool Yba.underlying4 _) (trodAll_cons_mk (shut_bool Yba.underlying4 _) (trodAll_cons_mk (shut_string Yba.underlying9 w7) (trodAll_cons_mk (shut_bool Yba.underlying4 _) (trodAll_cons_mk (shut_bool Yba.underlying4 _) trodAll_mk0))))))))))) (fun _ _ => rfl) rfl
    (hg.frame _) hg.2.1 (ok_one (by kernel_rfl) rfl (okWide_bool_mk Yba.underlying4 _))⟩

theorem over : Rows.lawS6142BWholeRow.holds Yba.pinned (OpenSpec.ofChange Rows.lawS6142BWholeSpec) :=
  OpenClaim.holds_of_wide 3 Yba.f3 rfl rfl rfl rfl rfl rfl rfl ⟨rfl, rfl, rfl, rfl, rfl⟩ rfl rfl rfl rfl rfl (by kernel_rfl) Yba.func3 (by kernel_rfl)
    (of_decide_eq_true (by kernel_rfl)) (by unfold Func.isWrapper; first | (rw [if_pos (by decide +kernel)]; kernel_rfl) | (rw [if_neg (by decide +kernel)]; exact ⟨rfl, rfl⟩))
    (fun os started H enc _ => lifted os started H enc)

/-- ████ THE STATEMENT ████ -/
theorem proved : Rows.LawS6142BWholeSaid :=
  over
#print axioms proved
end Go.Proofs.Ybulkdweg.lawS6142BWhole
