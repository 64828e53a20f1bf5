/-
  No cell of these rows narrows 'for every input' (looked for: loops, veiled, ifaces, maps, wideKeys, modest, calm, conditions, laid).
  DERIVED. THE GIVEN ROWS OF THIS SEAT. 1 by the template 'for every input the law returns true; each argument reads behind the call as it read before'; 0 by the template 'total and deterministic' (their statements: YbulkalhsTotals.lean).
  GIVEN WITH THE SEED: the statements are not yours to turn. If you find one false, say at which input.
  Laid BY PROGRAM, IN A SANDBOX (cutbox-rows.mjs): the forced cells as the released guide's own fill.sh prints them over the translation a846a7bfc835e1c2… (all of the seat's roots in one cut). By AI agents, Wed Nov 11 2026. No macro, syntax, notation, axiom, sorry.
-/
import Derived.Test.YbulkalhsChecked
import GoSem.Claim
import GoSem.ClaimJoined
import GoSem.ClaimMapViews
import Derived.JoinedTies
import Derived.KernelRfl
namespace Go.Proofs.Ybulkalhs
/- THE CELL 'sum', in the pinned program and in every row, IS THE sha256 OF THE DUMP (.gsa) THAT YbulkalhsProg.lean LOADS. Nothing in Lean hashes anything: it is a label: what it is worth is what the hold of that sum in a sandbox is worth. -/
noncomputable def Yba.pinned : Pinned := { name := "ybulkalhs", sum := "a846a7bfc835e1c2dafc2e67b3bc9416f1d414706c13ba1b8604d5fa7ad9af29", checked := Yba.checked }
namespace Rows
def none {H : Type} : Left H := { results := [], args := [] }

/-- 'threads.LawS1851BExact': WHATEVER THE INPUT: true; the input reads as it did. -/
def lawS1851BExactSpec : ChangeSpec := { name := "lawS1851BExact", fn := fun _ => fun
  | [d] => { results := [.lit (.bool true)], args := [d] }
  | _ => none }
def lawS1851BExactRow : OpenClaim := { program := "ybulkalhs", sum := "a846a7bfc835e1c2dafc2e67b3bc9416f1d414706c13ba1b8604d5fa7ad9af29", func := "example.com/heapwright/heapwright/threads.LawS1851BExact", spec := "lawS1851BExact", apart := false }
def LawS1851BExactSaid : Prop := lawS1851BExactRow.holds Yba.pinned (OpenSpec.ofChange lawS1851BExactSpec)

/-- ITS FALSE NEIGHBOUR: 'it returns false'. Refute it at one input. -/
def lawS1851BExactWrong : ChangeSpec := { name := "lawS1851BExact", fn := fun _ => fun
  | [d] => { results := [.lit (.bool false)], args := [d] }
  | _ => none }
def LawS1851BExactWrongFalsely : Prop := lawS1851BExactRow.holds Yba.pinned (OpenSpec.ofChange lawS1851BExactWrong)

end Rows
end Go.Proofs.Ybulkalhs
