/-
  No cell of these rows narrows 'for every input' (looked for: loops, veiled, ifaces, maps, wideKeys, modest, calm, conditions, laid).
  DERIVED. THE GIVEN ROWS OF THIS SEAT. 2 by the template 'for every input the law returns true; each argument reads behind the call as it read before'; 0 by the template 'total and deterministic' (their statements: YbulkdwbaTotals.lean).
  GIVEN WITH THE SEED: the statements are not yours to turn. If you find one false, say at which input.
  Laid BY PROGRAM, IN A SANDBOX (cutbox-rows.mjs): the forced cells as the released guide's own fill.sh prints them over the translation 33505d256beeea92… (all of the seat's roots in one cut). By AI agents, Wed Nov 11 2026. No macro, syntax, notation, axiom, sorry.
-/
import Derived.Test.YbulkdwbaChecked
import GoSem.Claim
import GoSem.ClaimJoined
import GoSem.ClaimMapViews
import Derived.JoinedTies
import Derived.KernelRfl
namespace Go.Proofs.Ybulkdwba
/- THE CELL 'sum', in the pinned program and in every row, IS THE sha256 OF THE DUMP (.gsa) THAT YbulkdwbaProg.lean LOADS. Nothing in Lean hashes anything: it is a label: what it is worth is what the hold of that sum in a sandbox is worth. -/
noncomputable def Yba.pinned : Pinned := { name := "ybulkdwba", sum := "33505d256beeea923182eac724886471a7dffa71daa8111a0a39216356bf834b", checked := Yba.checked }
namespace Rows
def none {H : Type} : Left H := { results := [], args := [] }

/-- 'triway.LawS6136BShortest': WHATEVER THE INPUT: true; the input reads as it did. -/
def lawS6136BShortestSpec : ChangeSpec := { name := "lawS6136BShortest", fn := fun _ => fun
  | [d1, d2, d3, d4, d5, d6, d7, d8, d9, d10] => { results := [.lit (.bool true)], args := [d1, d2, d3, d4, d5, d6, d7, d8, d9, d10] }
  | _ => none }
def lawS6136BShortestRow : OpenClaim := { program := "ybulkdwba", sum := "33505d256beeea923182eac724886471a7dffa71daa8111a0a39216356bf834b", func := "example.com/triway/triway.LawS6136BShortest", spec := "lawS6136BShortest", inPlace := ["math/bits.Add64"], apart := false }
def LawS6136BShortestSaid : Prop := lawS6136BShortestRow.holds Yba.pinned (OpenSpec.ofChange lawS6136BShortestSpec)

/-- ITS FALSE NEIGHBOUR: 'it returns false'. Refute it at one input. -/
def lawS6136BShortestWrong : ChangeSpec := { name := "lawS6136BShortest", fn := fun _ => fun
  | [d1, d2, d3, d4, d5, d6, d7, d8, d9, d10] => { results := [.lit (.bool false)], args := [d1, d2, d3, d4, d5, d6, d7, d8, d9, d10] }
  | _ => none }
def LawS6136BShortestWrongFalsely : Prop := lawS6136BShortestRow.holds Yba.pinned (OpenSpec.ofChange lawS6136BShortestWrong)

/-- 'triway.LawS6136CWhole': WHATEVER THE INPUT: true; the input reads as it did. -/
def lawS6136CWholeSpec : ChangeSpec := { name := "lawS6136CWhole", fn := fun _ => fun
  | [d1, d2, d3] => { results := [.lit (.bool true)], args := [d1, d2, d3] }
  | _ => none }
def lawS6136CWholeRow : OpenClaim := { program := "ybulkdwba", sum := "33505d256beeea923182eac724886471a7dffa71daa8111a0a39216356bf834b", func := "example.com/triway/triway.LawS6136CWhole", spec := "lawS6136CWhole", apart := false }
def LawS6136CWholeSaid : Prop := lawS6136CWholeRow.holds Yba.pinned (OpenSpec.ofChange lawS6136CWholeSpec)

/-- ITS FALSE NEIGHBOUR: 'it returns false'. Refute it at one input. -/
def lawS6136CWholeWrong : ChangeSpec := { name := "lawS6136CWhole", fn := fun _ => fun
  | [d1, d2, d3] => { results := [.lit (.bool false)], args := [d1, d2, d3] }
  | _ => none }
def LawS6136CWholeWrongFalsely : Prop := lawS6136CWholeRow.holds Yba.pinned (OpenSpec.ofChange lawS6136CWholeWrong)

end Rows
end Go.Proofs.Ybulkdwba
