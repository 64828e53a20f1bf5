/-
  No cell of these rows narrows 'for every input' (looked for: loops, veiled, ifaces, maps, wideKeys, modest, calm, conditions, laid).
  DERIVED. THE GIVEN ROWS OF THIS SEAT. 2 by the template 'for every input the law returns true; each argument reads behind the call as it read before'; 0 by the template 'total and deterministic' (their statements: YbulkalbgTotals.lean).
  GIVEN WITH THE SEED: the statements are not yours to turn. If you find one false, say at which input.
  Laid BY PROGRAM, IN A SANDBOX (cutbox-rows.mjs): the forced cells as the released guide's own fill.sh prints them over the translation b612fefbe3cf491c… (all of the seat's roots in one cut). By AI agents, Wed Nov 11 2026. No macro, syntax, notation, axiom, sorry.
-/
import Derived.Test.YbulkalbgChecked
import GoSem.Claim
import GoSem.ClaimJoined
import GoSem.ClaimMapViews
import Derived.JoinedTies
import Derived.KernelRfl
namespace Go.Proofs.Ybulkalbg
/- THE CELL 'sum', in the pinned program and in every row, IS THE sha256 OF THE DUMP (.gsa) THAT YbulkalbgProg.lean LOADS. Nothing in Lean hashes anything: it is a label: what it is worth is what the hold of that sum in a sandbox is worth. -/
noncomputable def Yba.pinned : Pinned := { name := "ybulkalbg", sum := "b612fefbe3cf491cb3c3b7c13f17f1b8fbae41f3b0fd2102d5a5ffa679106a5a", checked := Yba.checked }
namespace Rows
def none {H : Type} : Left H := { results := [], args := [] }

/-- 'query.LawS1839AKeep': WHATEVER THE INPUT: true; the input reads as it did. -/
def lawS1839AKeepSpec : ChangeSpec := { name := "lawS1839AKeep", fn := fun _ => fun
  | [d1, d2, d3, d4, d5] => { results := [.lit (.bool true)], args := [d1, d2, d3, d4, d5] }
  | _ => none }
def lawS1839AKeepRow : OpenClaim := { program := "ybulkalbg", sum := "b612fefbe3cf491cb3c3b7c13f17f1b8fbae41f3b0fd2102d5a5ffa679106a5a", func := "example.com/cardea/cardea/internal/query.LawS1839AKeep", spec := "lawS1839AKeep", inPlace := ["internal/abi.NoEscape"], apart := false }
def LawS1839AKeepSaid : Prop := lawS1839AKeepRow.holds Yba.pinned (OpenSpec.ofChange lawS1839AKeepSpec)

/-- ITS FALSE NEIGHBOUR: 'it returns false'. Refute it at one input. -/
def lawS1839AKeepWrong : ChangeSpec := { name := "lawS1839AKeep", fn := fun _ => fun
  | [d1, d2, d3, d4, d5] => { results := [.lit (.bool false)], args := [d1, d2, d3, d4, d5] }
  | _ => none }
def LawS1839AKeepWrongFalsely : Prop := lawS1839AKeepRow.holds Yba.pinned (OpenSpec.ofChange lawS1839AKeepWrong)

/-- 'query.LawS1839AContiguous': WHATEVER THE INPUT: true; the input reads as it did. -/
def lawS1839AContiguousSpec : ChangeSpec := { name := "lawS1839AContiguous", fn := fun _ => fun
  | [d1, d2] => { results := [.lit (.bool true)], args := [d1, d2] }
  | _ => none }
def lawS1839AContiguousRow : OpenClaim := { program := "ybulkalbg", sum := "b612fefbe3cf491cb3c3b7c13f17f1b8fbae41f3b0fd2102d5a5ffa679106a5a", func := "example.com/cardea/cardea/internal/query.LawS1839AContiguous", spec := "lawS1839AContiguous", inPlace := ["internal/abi.NoEscape"], apart := false }
def LawS1839AContiguousSaid : Prop := lawS1839AContiguousRow.holds Yba.pinned (OpenSpec.ofChange lawS1839AContiguousSpec)

/-- ITS FALSE NEIGHBOUR: 'it returns false'. Refute it at one input. -/
def lawS1839AContiguousWrong : ChangeSpec := { name := "lawS1839AContiguous", fn := fun _ => fun
  | [d1, d2] => { results := [.lit (.bool false)], args := [d1, d2] }
  | _ => none }
def LawS1839AContiguousWrongFalsely : Prop := lawS1839AContiguousRow.holds Yba.pinned (OpenSpec.ofChange lawS1839AContiguousWrong)

end Rows
end Go.Proofs.Ybulkalbg
