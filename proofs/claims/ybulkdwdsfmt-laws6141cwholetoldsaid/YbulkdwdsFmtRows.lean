/-
  No cell of these rows narrows 'for every input' (looked for: loops, veiled, ifaces, maps, wideKeys, modest, calm, conditions, laid).
  DERIVED. THE GIVEN ROWS OF THIS SEAT. 1 by the template 'for every input the law returns true; each argument reads behind the call as it read before'; 0 by the template 'total and deterministic' (their statements: YbulkdwdsFmtTotals.lean).
  GIVEN WITH THE SEED: the statements are not yours to turn. If you find one false, say at which input.
  Laid BY PROGRAM, IN A SANDBOX (cutbox-rows.mjs): the forced cells as the released guide's own fill.sh prints them over the translation afb09fca560c67bc… (all of the seat's roots in one cut). By AI agents, Wed Nov 11 2026. No macro, syntax, notation, axiom, sorry.
-/
import Derived.Test.YbulkdwdsFmtChecked
import GoSem.Claim
import GoSem.ClaimJoined
import GoSem.ClaimMapViews
import Derived.JoinedTies
import Derived.KernelRfl
namespace Go.Proofs.YbulkdwdsFmt
/- THE CELL 'sum', in the pinned program and in every row, IS THE sha256 OF THE DUMP (.gsa) THAT YbulkdwdsFmtProg.lean LOADS. Nothing in Lean hashes anything: it is a label: what it is worth is what the hold of that sum in a sandbox is worth. -/
noncomputable def Ybaf.pinned : Pinned := { name := "ybulkdwdsfmt", sum := "afb09fca560c67bc18277e7dea9387cde40bcbce037df82e0cd6af603ab0f84b", checked := Ybaf.checked }
namespace Rows
def none {H : Type} : Left H := { results := [], args := [] }

/-- 'replica.LawS6141CWhole': WHATEVER THE INPUT: true; the input reads as it did. -/
def lawS6141CWholeSpec : ChangeSpec := { name := "lawS6141CWhole", fn := fun _ => fun
  | [d1, d2] => { results := [.lit (.bool true)], args := [d1, d2] }
  | _ => none }
def lawS6141CWholeRow : OpenClaim := { program := "ybulkdwdsfmt", sum := "afb09fca560c67bc18277e7dea9387cde40bcbce037df82e0cd6af603ab0f84b", func := "example.com/quorate/quorate/internal/replica.LawS6141CWhole", spec := "lawS6141CWhole", stops := ["fmt.errorf"], inPlace := ["fmt.errorf"], apart := false }
/-- NO THEOREM (fmt's text is open here; it may be false): for the released tool's asking of the row's closed facts alone. THE STATEMENT IS 'LawS6141CWholeToldSaid' (YbulkdwdsFmtCards.lean). -/
def LawS6141CWholeFormAsk : Prop := lawS6141CWholeRow.holds Ybaf.pinned (OpenSpec.ofChange lawS6141CWholeSpec)

/-- ITS FALSE NEIGHBOUR: 'it returns false'. Refute it at one input. -/
def lawS6141CWholeWrong : ChangeSpec := { name := "lawS6141CWhole", fn := fun _ => fun
  | [d1, d2] => { results := [.lit (.bool false)], args := [d1, d2] }
  | _ => none }
def LawS6141CWholeWrongFormAsk : Prop := lawS6141CWholeRow.holds Ybaf.pinned (OpenSpec.ofChange lawS6141CWholeWrong)

end Rows
end Go.Proofs.YbulkdwdsFmt
