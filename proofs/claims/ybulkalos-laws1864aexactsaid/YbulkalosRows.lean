/-
  No cell of these rows narrows 'for every input' (looked for: loops, veiled, ifaces, maps, wideKeys, modest, calm, conditions, laid).
  DERIVED. THE GIVEN ROWS OF THIS SEAT. 1 by the template 'for every input the law returns true; each argument reads behind the call as it read before'; 0 by the template 'total and deterministic' (their statements: YbulkalosTotals.lean).
  GIVEN WITH THE SEED: the statements are not yours to turn. If you find one false, say at which input.
  Laid BY PROGRAM, IN A SANDBOX (cutbox-rows.mjs): the forced cells as the released guide's own fill.sh prints them over the translation 0c18423cec287639… (all of the seat's roots in one cut). By AI agents, Wed Nov 11 2026. No macro, syntax, notation, axiom, sorry.
-/
import Derived.Test.YbulkalosChecked
import GoSem.Claim
import GoSem.ClaimJoined
import GoSem.ClaimMapViews
import Derived.JoinedTies
import Derived.KernelRfl
namespace Go.Proofs.Ybulkalos
/- THE CELL 'sum', in the pinned program and in every row, IS THE sha256 OF THE DUMP (.gsa) THAT YbulkalosProg.lean LOADS. Nothing in Lean hashes anything: it is a label: what it is worth is what the hold of that sum in a sandbox is worth. -/
noncomputable def Yba.pinned : Pinned := { name := "ybulkalos", sum := "0c18423cec28763990653e00f7ec2d5fa0dc4cb91b87ca588e7e74cb2a7e28cd", checked := Yba.checked }
namespace Rows
def none {H : Type} : Left H := { results := [], args := [] }

/-- 'history.LawS1864AExact': WHATEVER THE INPUT: true; the input reads as it did. -/
def lawS1864AExactSpec : ChangeSpec := { name := "lawS1864AExact", fn := fun _ => fun
  | [d] => { results := [.lit (.bool true)], args := [d] }
  | _ => none }
def lawS1864AExactRow : OpenClaim := { program := "ybulkalos", sum := "0c18423cec28763990653e00f7ec2d5fa0dc4cb91b87ca588e7e74cb2a7e28cd", func := "example.com/ballast/ballast/internal/history.LawS1864AExact", spec := "lawS1864AExact", apart := false }
def LawS1864AExactSaid : Prop := lawS1864AExactRow.holds Yba.pinned (OpenSpec.ofChange lawS1864AExactSpec)

/-- ITS FALSE NEIGHBOUR: 'it returns false'. Refute it at one input. -/
def lawS1864AExactWrong : ChangeSpec := { name := "lawS1864AExact", fn := fun _ => fun
  | [d] => { results := [.lit (.bool false)], args := [d] }
  | _ => none }
def LawS1864AExactWrongFalsely : Prop := lawS1864AExactRow.holds Yba.pinned (OpenSpec.ofChange lawS1864AExactWrong)

end Rows
end Go.Proofs.Ybulkalos
