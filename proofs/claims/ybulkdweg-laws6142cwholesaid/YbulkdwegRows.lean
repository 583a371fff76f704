/-
  No cell of these rows narrows 'for every input' (looked for: loops, veiled, ifaces, maps, wideKeys, modest, calm, conditions, laid).
  DERIVED. THE GIVEN ROWS OF THIS SEAT. 2 by the template 'for every input the law returns true; each argument reads behind the call as it read before'; 0 by the template 'total and deterministic' (their statements: YbulkdwegTotals.lean).
  GIVEN WITH THE SEED: the statements are not yours to turn. If you find one false, say at which input.
  Laid BY PROGRAM, IN A SANDBOX (cutbox-rows.mjs): the forced cells as the released guide's own fill.sh prints them over the translation 3d8aaa601ba72fac… (all of the seat's roots in one cut). By AI agents, Wed Nov 11 2026. No macro, syntax, notation, axiom, sorry.
-/
import Derived.Test.YbulkdwegChecked
import GoSem.Claim
import GoSem.ClaimJoined
import GoSem.ClaimMapViews
import Derived.JoinedTies
import Derived.KernelRfl
namespace Go.Proofs.Ybulkdweg
/- THE CELL 'sum', in the pinned program and in every row, IS THE sha256 OF THE DUMP (.gsa) THAT YbulkdwegProg.lean LOADS. Nothing in Lean hashes anything: it is a label: what it is worth is what the hold of that sum in a sandbox is worth. -/
noncomputable def Yba.pinned : Pinned := { name := "ybulkdweg", sum := "3d8aaa601ba72facfc029f12482535f1b90700618769518cc6872e303686b418", checked := Yba.checked }
namespace Rows
def none {H : Type} : Left H := { results := [], args := [] }

/-- 'values.LawS6142BWhole': WHATEVER THE INPUT: true; the input reads as it did. -/
def lawS6142BWholeSpec : ChangeSpec := { name := "lawS6142BWhole", fn := fun _ => fun
  | [d1, d2, d3, d4, d5, d6, d7, d8, d9, d10] => { results := [.lit (.bool true)], args := [d1, d2, d3, d4, d5, d6, d7, d8, d9, d10] }
  | _ => none }
def lawS6142BWholeRow : OpenClaim := { program := "ybulkdweg", sum := "3d8aaa601ba72facfc029f12482535f1b90700618769518cc6872e303686b418", func := "example.com/tenon/tenon/values.LawS6142BWhole", spec := "lawS6142BWhole", apart := false }
def LawS6142BWholeSaid : Prop := lawS6142BWholeRow.holds Yba.pinned (OpenSpec.ofChange lawS6142BWholeSpec)

/-- ITS FALSE NEIGHBOUR: 'it returns false'. Refute it at one input. -/
def lawS6142BWholeWrong : ChangeSpec := { name := "lawS6142BWhole", fn := fun _ => fun
  | [d1, d2, d3, d4, d5, d6, d7, d8, d9, d10] => { results := [.lit (.bool false)], args := [d1, d2, d3, d4, d5, d6, d7, d8, d9, d10] }
  | _ => none }
def LawS6142BWholeWrongFalsely : Prop := lawS6142BWholeRow.holds Yba.pinned (OpenSpec.ofChange lawS6142BWholeWrong)

/-- 'schema.LawS6142CWhole': WHATEVER THE INPUT: true; the input reads as it did. -/
def lawS6142CWholeSpec : ChangeSpec := { name := "lawS6142CWhole", fn := fun _ => fun
  | [d1, d2] => { results := [.lit (.bool true)], args := [d1, d2] }
  | _ => none }
def lawS6142CWholeRow : OpenClaim := { program := "ybulkdweg", sum := "3d8aaa601ba72facfc029f12482535f1b90700618769518cc6872e303686b418", func := "example.com/tenon/tenon/schema.LawS6142CWhole", spec := "lawS6142CWhole", apart := false }
def LawS6142CWholeSaid : Prop := lawS6142CWholeRow.holds Yba.pinned (OpenSpec.ofChange lawS6142CWholeSpec)

/-- ITS FALSE NEIGHBOUR: 'it returns false'. Refute it at one input. -/
def lawS6142CWholeWrong : ChangeSpec := { name := "lawS6142CWhole", fn := fun _ => fun
  | [d1, d2] => { results := [.lit (.bool false)], args := [d1, d2] }
  | _ => none }
def LawS6142CWholeWrongFalsely : Prop := lawS6142CWholeRow.holds Yba.pinned (OpenSpec.ofChange lawS6142CWholeWrong)

end Rows
end Go.Proofs.Ybulkdweg
