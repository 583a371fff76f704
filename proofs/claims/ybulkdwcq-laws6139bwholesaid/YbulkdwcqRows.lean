/-
  No cell of these rows narrows 'for every input' (looked for: loops, veiled, ifaces, maps, wideKeys, modest, calm, conditions, laid).
  DERIVED. THE GIVEN ROWS OF THIS SEAT. 2 by the template 'for every input the law returns true; each argument reads behind the call as it read before'; 0 by the template 'total and deterministic' (their statements: YbulkdwcqTotals.lean).
  GIVEN WITH THE SEED: the statements are not yours to turn. If you find one false, say at which input.
  Laid BY PROGRAM, IN A SANDBOX (cutbox-rows.mjs): the forced cells as the released guide's own fill.sh prints them over the translation 38d3fce7ce7a0c34… (all of the seat's roots in one cut). By AI agents, Wed Nov 11 2026. No macro, syntax, notation, axiom, sorry.
-/
import Derived.Test.YbulkdwcqChecked
import GoSem.Claim
import GoSem.ClaimJoined
import GoSem.ClaimMapViews
import Derived.JoinedTies
import Derived.KernelRfl
namespace Go.Proofs.Ybulkdwcq
/- THE CELL 'sum', in the pinned program and in every row, IS THE sha256 OF THE DUMP (.gsa) THAT YbulkdwcqProg.lean LOADS. Nothing in Lean hashes anything: it is a label: what it is worth is what the hold of that sum in a sandbox is worth. -/
noncomputable def Yba.pinned : Pinned := { name := "ybulkdwcq", sum := "38d3fce7ce7a0c344a29e0a17319aa2171322d1d19b2e6ca99008a0f17d64a38", checked := Yba.checked }
namespace Rows
def none {H : Type} : Left H := { results := [], args := [] }

/-- 'image.LawS6139BWhole': WHATEVER THE INPUT: true; the input reads as it did. -/
def lawS6139BWholeSpec : ChangeSpec := { name := "lawS6139BWhole", fn := fun _ => fun
  | [d1, d2] => { results := [.lit (.bool true)], args := [d1, d2] }
  | _ => none }
def lawS6139BWholeRow : OpenClaim := { program := "ybulkdwcq", sum := "38d3fce7ce7a0c344a29e0a17319aa2171322d1d19b2e6ca99008a0f17d64a38", func := "example.com/lamina/lamina/pkg/image.LawS6139BWhole", spec := "lawS6139BWhole", apart := false }
def LawS6139BWholeSaid : Prop := lawS6139BWholeRow.holds Yba.pinned (OpenSpec.ofChange lawS6139BWholeSpec)

/-- ITS FALSE NEIGHBOUR: 'it returns false'. Refute it at one input. -/
def lawS6139BWholeWrong : ChangeSpec := { name := "lawS6139BWhole", fn := fun _ => fun
  | [d1, d2] => { results := [.lit (.bool false)], args := [d1, d2] }
  | _ => none }
def LawS6139BWholeWrongFalsely : Prop := lawS6139BWholeRow.holds Yba.pinned (OpenSpec.ofChange lawS6139BWholeWrong)

/-- 'digest.LawS6139CWhole': WHATEVER THE INPUT: true; the input reads as it did. -/
def lawS6139CWholeSpec : ChangeSpec := { name := "lawS6139CWhole", fn := fun _ => fun
  | [d] => { results := [.lit (.bool true)], args := [d] }
  | _ => none }
def lawS6139CWholeRow : OpenClaim := { program := "ybulkdwcq", sum := "38d3fce7ce7a0c344a29e0a17319aa2171322d1d19b2e6ca99008a0f17d64a38", func := "example.com/lamina/lamina/pkg/digest.LawS6139CWhole", spec := "lawS6139CWhole", unfollowed := true, recurses := true, apart := false }
def LawS6139CWholeSaid : Prop := lawS6139CWholeRow.holds Yba.pinned (OpenSpec.ofChange lawS6139CWholeSpec)

/-- ITS FALSE NEIGHBOUR: 'it returns false'. Refute it at one input. -/
def lawS6139CWholeWrong : ChangeSpec := { name := "lawS6139CWhole", fn := fun _ => fun
  | [d] => { results := [.lit (.bool false)], args := [d] }
  | _ => none }
def LawS6139CWholeWrongFalsely : Prop := lawS6139CWholeRow.holds Yba.pinned (OpenSpec.ofChange lawS6139CWholeWrong)

end Rows
end Go.Proofs.Ybulkdwcq
