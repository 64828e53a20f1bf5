/-
  NARROWER THAN 'FOR EVERY INPUT', by the rows' own cells (each row's printed sentence says how): LawS1839BLoopedBack: maps, laid.
  DERIVED. THE GIVEN ROWS OF THIS SEAT. 1 by the template 'for every input the law returns true; each argument reads behind the call as it read before'; 0 by the template 'total and deterministic' (their statements: YbulkalbgFmtTotals.lean).
  GIVEN WITH THE SEED: the statements are not yours to turn. If you find one false, say at which input.
  Laid BY PROGRAM, IN A SANDBOX (cutbox-rows.mjs): the forced cells as the released guide's own fill.sh prints them over the translation bbcae38271bfcaa7… (all of the seat's roots in one cut). By AI agents, Wed Nov 11 2026. No macro, syntax, notation, axiom, sorry.
-/
import Derived.Test.YbulkalbgFmtChecked
import GoSem.Claim
import GoSem.ClaimJoined
import GoSem.ClaimMapViews
import Derived.JoinedTies
import Derived.KernelRfl
namespace Go.Proofs.YbulkalbgFmt
/- THE CELL 'sum', in the pinned program and in every row, IS THE sha256 OF THE DUMP (.gsa) THAT YbulkalbgFmtProg.lean LOADS. Nothing in Lean hashes anything: it is a label: what it is worth is what the hold of that sum in a sandbox is worth. -/
noncomputable def Ybaf.pinned : Pinned := { name := "ybulkalbgfmt", sum := "bbcae38271bfcaa710b3f3987ee940b691d265a19d5d09fbb70bff8870568cf6", checked := Ybaf.checked }
namespace Rows
def none {H : Type} : Left H := { results := [], args := [] }

/- WHAT THE LISTED PACKAGE-LEVEL VARIABLES READ AS WHEN THE CALL BEGINS. Each datum BY PROGRAM (the guide's laid-datum.mjs) off the statement by which the dump's own 'gosem.cut.vars' lays the variable. In a bare row this is a premise. The card (YbulkalbgFmtCards.lean) ties it to the program's text. -/
def laid_example_com_cardea_cardea_internal_eval_natChains {H : Type} : DataW H := .map [(.string [70, 79, 82, 87, 65, 82, 68], .agg [.lit (.string [80, 82, 69, 82, 79, 85, 84, 73, 78, 71]), .lit (.string [80, 79, 83, 84, 82, 79, 85, 84, 73, 78, 71])]), (.string [73, 78, 80, 85, 84], .agg [.lit (.string [80, 82, 69, 82, 79, 85, 84, 73, 78, 71]), .lit (.string [73, 78, 80, 85, 84])]), (.string [79, 85, 84, 80, 85, 84], .agg [.lit (.string [79, 85, 84, 80, 85, 84]), .lit (.string [80, 79, 83, 84, 82, 79, 85, 84, 73, 78, 71])])]

/-- 'eval.LawS1839BLoopedBack': WHATEVER THE INPUT: true; the input reads as it did. -/
def lawS1839BLoopedBackSpec : ChangeSpec := { name := "lawS1839BLoopedBack", vars := ["example.com/cardea/cardea/internal/eval.natChains"], fn := fun _ => fun
  | [d1, d2, d3, g1] => { results := [.lit (.bool true)], args := [d1, d2, d3], vars := [g1] }
  | _ => none }
def lawS1839BLoopedBackRow : OpenClaim := { program := "ybulkalbgfmt", sum := "bbcae38271bfcaa710b3f3987ee940b691d265a19d5d09fbb70bff8870568cf6", func := "example.com/cardea/cardea/internal/eval.LawS1839BLoopedBack", spec := "lawS1839BLoopedBack", stops := ["fmt.errorf"], inPlace := ["fmt.errorf"], unfollowed := true, recurses := true, named := ["example.com/cardea/cardea/internal/eval.natChains"], maps := true, apart := false, laid := [("example.com/cardea/cardea/internal/eval.natChains", laid_example_com_cardea_cardea_internal_eval_natChains)] }
/-- NO THEOREM (fmt's text is open here; it may be false): for the released tool's asking of the row's closed facts alone. THE STATEMENT IS 'LawS1839BLoopedBackToldSaid' (YbulkalbgFmtCards.lean). -/
def LawS1839BLoopedBackFormAsk : Prop := lawS1839BLoopedBackRow.holds Ybaf.pinned (OpenSpec.ofChange lawS1839BLoopedBackSpec)

/-- ITS FALSE NEIGHBOUR: 'it returns false'. Refute it at one input. -/
def lawS1839BLoopedBackWrong : ChangeSpec := { name := "lawS1839BLoopedBack", vars := ["example.com/cardea/cardea/internal/eval.natChains"], fn := fun _ => fun
  | [d1, d2, d3, g1] => { results := [.lit (.bool false)], args := [d1, d2, d3], vars := [g1] }
  | _ => none }
def LawS1839BLoopedBackWrongFormAsk : Prop := lawS1839BLoopedBackRow.holds Ybaf.pinned (OpenSpec.ofChange lawS1839BLoopedBackWrong)

end Rows
end Go.Proofs.YbulkalbgFmt
