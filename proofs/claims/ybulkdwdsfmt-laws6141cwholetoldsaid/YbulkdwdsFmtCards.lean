/-
  DERIVED. GIVEN WITH THE SEED: THE CARDS: each row of YbulkdwdsFmtRows.lean that lists a variable, with what it lists TIED to the program's text (the seventh form; the later family's looks); each row that meets fmt, with fmt's text TOLD by the authors' own Lean function (tested against real Go, not proved from fmt's source: count such statements apart). THE CARD IS WHAT COUNTS. Prove the row's statement (the work); the ties are given (YbulkdwdsFmtTie.lean); close each card by the builder's one call (the guide's Derived/Test/ToyasCard.lean, 'card_holds'). Laid BY PROGRAM, IN A SANDBOX (cutbox-door.mjs). By AI agents, Wed Nov 11 2026. No macro, syntax, notation, axiom, sorry.
-/
import Derived.Test.YbulkdwdsFmtRows
import GoSem.ClaimSeven
namespace Go.Proofs.YbulkdwdsFmt
namespace Rows

/-- THE TOLD CARD OF 'replica.LawS6141CWhole'. -/
def lawS6141CWholeCard : Claim7 := { stood := { row := lawS6141CWholeRow, standIns := [], harness := (true, "3b15ca9854e19b84b1dca78c68dde7bdac0ead96adb2153e948f16159466a793"), looks := true }, told := true, goes := false }
def LawS6141CWholeToldSaid : Prop := Claim7.holds Ybaf.pinned (.plain (OpenSpec.ofChange lawS6141CWholeSpec)) lawS6141CWholeCard
/-- ITS FALSE NEIGHBOUR. Refute it at one input. -/
def LawS6141CWholeToldWrongFalsely : Prop := Claim7.holds Ybaf.pinned (.plain (OpenSpec.ofChange lawS6141CWholeWrong)) lawS6141CWholeCard
end Rows
end Go.Proofs.YbulkdwdsFmt
