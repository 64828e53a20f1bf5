/-
  DERIVED. GIVEN WITH THE SEED: THE CARDS: each row of YbulkalbgFmtRows.lean that lists a variable, with what it lists TIED to the program's text (the seventh form; the later family's looks); each row that meets fmt, with fmt's text TOLD by the authors' own Lean function (tested against real Go, not proved from fmt's source: count such statements apart). THE CARD IS WHAT COUNTS. Prove the row's statement (the work); the ties are given (YbulkalbgFmtTie.lean); close each card by the builder's one call (the guide's Derived/Test/ToyasCard.lean, 'card_holds'). Laid BY PROGRAM, IN A SANDBOX (cutbox-door.mjs). By AI agents, Wed Nov 11 2026. No macro, syntax, notation, axiom, sorry.
-/
import Derived.Test.YbulkalbgFmtRows
import GoSem.ClaimSeven
namespace Go.Proofs.YbulkalbgFmt
namespace Rows

/-- THE TOLD AND TIED CARD OF 'eval.LawS1839BLoopedBack'. -/
def lawS1839BLoopedBackCard : Claim7 := { stood := { row := lawS1839BLoopedBackRow, standIns := [], harness := (true, "f5aeffd251456dc6efcc60dac16ba14c52a1d62b3dd60a2b400efc5d6633d25e"), looks := false }, told := true, laidByText := true, laidKinds := [.mapped], laidTests := true, laidLooks := .later, goes := false }
def LawS1839BLoopedBackToldSaid : Prop := Claim7.holds Ybaf.pinned (.plain (OpenSpec.ofChange lawS1839BLoopedBackSpec)) lawS1839BLoopedBackCard
/-- ITS FALSE NEIGHBOUR. Refute it at one input. -/
def LawS1839BLoopedBackToldWrongFalsely : Prop := Claim7.holds Ybaf.pinned (.plain (OpenSpec.ofChange lawS1839BLoopedBackWrong)) lawS1839BLoopedBackCard
end Rows
end Go.Proofs.YbulkalbgFmt
