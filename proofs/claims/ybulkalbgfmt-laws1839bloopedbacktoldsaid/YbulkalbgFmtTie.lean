/-
  DERIVED. GIVEN WITH THE SEED: THE PROGRAM's TIES (one call each: nine closed facts by the kernel) AND EACH ROW's TIE, after the 31st guide's Derived/Test/Toyas{Tie, Card}.lean. No idea stands in it: it is a product of the set-up. Laid BY PROGRAM, IN A SANDBOX (cutbox-door.mjs). By AI agents, Wed Nov 11 2026. No macro, syntax, notation, axiom, sorry.
-/
import Derived.Test.YbulkalbgFmtRows
import Derived.LaidByTextLater
import Derived.SevenTiedAt
import Derived.LaidSub
import Derived.LaidOnce
namespace Go.Proofs.YbulkalbgFmt
open Go
set_option maxRecDepth 100000
theorem seatTie1 : Ybaf.prog.laidByTextLater [("example.com/cardea/cardea/internal/eval.natChains", Rows.laid_example_com_cardea_cardea_internal_eval_natChains)] [.mapped] true :=
  Program.laidByTextLater_by_one 32 8 2 (by kernel_rfl) (by kernel_rfl) (by kernel_rfl) (by kernel_rfl) (by kernel_rfl) (by kernel_rfl) (fun _ _ => by kernel_rfl)
theorem noOwnUnsafe : Ybaf.pinned.checked.prog.headLifts.contains "ownunsafe" = false := by kernel_rfl
theorem tie : Ybaf.prog.laidByTextLater [("example.com/cardea/cardea/internal/eval.natChains", Rows.laid_example_com_cardea_cardea_internal_eval_natChains)] [.mapped] true :=
  Program.laidByTextLater.sub seatTie1 ["example.com/cardea/cardea/internal/eval.natChains"] (by kernel_rfl) (by kernel_rfl)
theorem lawS1839BLoopedBack_row_tie : Rows.lawS1839BLoopedBackRow.laidByTextAt .later Ybaf.pinned [.mapped] true :=
  OpenClaim.laidByTextAt_later rfl rfl tie noOwnUnsafe
end Go.Proofs.YbulkalbgFmt
