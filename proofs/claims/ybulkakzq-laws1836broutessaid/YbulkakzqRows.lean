/-
  No cell of these rows narrows 'for every input' (looked for: loops, veiled, ifaces, maps, wideKeys, modest, calm, conditions, laid).
  DERIVED. THE GIVEN ROWS OF THIS SEAT. 3 by the template 'for every input the law returns true; each argument reads behind the call as it read before'; 0 by the template 'total and deterministic' (their statements: YbulkakzqTotals.lean).
  GIVEN WITH THE SEED: the statements are not yours to turn. If you find one false, say at which input.
  Laid BY PROGRAM, IN A SANDBOX (cutbox-rows.mjs): the forced cells as the released guide's own fill.sh prints them over the translation 4cc5dc90c8dc6f12… (all of the seat's roots in one cut). By AI agents, Wed Nov 11 2026. No macro, syntax, notation, axiom, sorry.
-/
import Derived.Test.YbulkakzqChecked
import GoSem.Claim
import GoSem.ClaimJoined
import GoSem.ClaimMapViews
import Derived.JoinedTies
import Derived.KernelRfl
namespace Go.Proofs.Ybulkakzq
/- THE CELL 'sum', in the pinned program and in every row, IS THE sha256 OF THE DUMP (.gsa) THAT YbulkakzqProg.lean LOADS. Nothing in Lean hashes anything: it is a label: what it is worth is what the hold of that sum in a sandbox is worth. -/
noncomputable def Yba.pinned : Pinned := { name := "ybulkakzq", sum := "4cc5dc90c8dc6f12b2d2e6b49b274edff0d83ba9e27b1ee6b822ec4cb3e732f8", checked := Yba.checked }
namespace Rows
def none {H : Type} : Left H := { results := [], args := [] }

/-- 'protocol.LawS1836AExact': WHATEVER THE INPUT: true; the input reads as it did. -/
def lawS1836AExactSpec : ChangeSpec := { name := "lawS1836AExact", fn := fun _ => fun
  | [d1, d2, d3, d4, d5] => { results := [.lit (.bool true)], args := [d1, d2, d3, d4, d5] }
  | _ => none }
def lawS1836AExactRow : OpenClaim := { program := "ybulkakzq", sum := "4cc5dc90c8dc6f12b2d2e6b49b274edff0d83ba9e27b1ee6b822ec4cb3e732f8", func := "example.com/chorale/chorale/internal/protocol.LawS1836AExact", spec := "lawS1836AExact", named := ["encoding/binary.BigEndian"], plainKeys := false, apart := false }
def LawS1836AExactSaid : Prop := lawS1836AExactRow.holds Yba.pinned (OpenSpec.ofChange lawS1836AExactSpec)

/-- ITS FALSE NEIGHBOUR: 'it returns false'. Refute it at one input. -/
def lawS1836AExactWrong : ChangeSpec := { name := "lawS1836AExact", fn := fun _ => fun
  | [d1, d2, d3, d4, d5] => { results := [.lit (.bool false)], args := [d1, d2, d3, d4, d5] }
  | _ => none }
def LawS1836AExactWrongFalsely : Prop := lawS1836AExactRow.holds Yba.pinned (OpenSpec.ofChange lawS1836AExactWrong)

/-- 'protocol.LawS1836BRoutes': WHATEVER THE INPUT: true; the input reads as it did. -/
def lawS1836BRoutesSpec : ChangeSpec := { name := "lawS1836BRoutes", fn := fun _ => fun
  | [d1, d2, d3, d4, d5, d6, d7, d8, d9, d10] => { results := [.lit (.bool true)], args := [d1, d2, d3, d4, d5, d6, d7, d8, d9, d10] }
  | _ => none }
def lawS1836BRoutesRow : OpenClaim := { program := "ybulkakzq", sum := "4cc5dc90c8dc6f12b2d2e6b49b274edff0d83ba9e27b1ee6b822ec4cb3e732f8", func := "example.com/chorale/chorale/internal/protocol.LawS1836BRoutes", spec := "lawS1836BRoutes", inPlace := ["slices.overlaps[uint64]", "slices.overlaps[example.com/chorale/chorale/internal/protocol.waiter]"], unfollowed := true, recurses := true, named := ["encoding/binary.BigEndian"], plainKeys := false, apart := false }
def LawS1836BRoutesSaid : Prop := lawS1836BRoutesRow.holds Yba.pinned (OpenSpec.ofChange lawS1836BRoutesSpec)

/-- ITS FALSE NEIGHBOUR: 'it returns false'. Refute it at one input. -/
def lawS1836BRoutesWrong : ChangeSpec := { name := "lawS1836BRoutes", fn := fun _ => fun
  | [d1, d2, d3, d4, d5, d6, d7, d8, d9, d10] => { results := [.lit (.bool false)], args := [d1, d2, d3, d4, d5, d6, d7, d8, d9, d10] }
  | _ => none }
def LawS1836BRoutesWrongFalsely : Prop := lawS1836BRoutesRow.holds Yba.pinned (OpenSpec.ofChange lawS1836BRoutesWrong)

/-- 'chorale.LawS1836CWritten': WHATEVER THE INPUT: true; the input reads as it did. -/
def lawS1836CWrittenSpec : ChangeSpec := { name := "lawS1836CWritten", fn := fun _ => fun
  | [d1, d2, d3, d4, d5, d6, d7, d8] => { results := [.lit (.bool true)], args := [d1, d2, d3, d4, d5, d6, d7, d8] }
  | _ => none }
def lawS1836CWrittenRow : OpenClaim := { program := "ybulkakzq", sum := "4cc5dc90c8dc6f12b2d2e6b49b274edff0d83ba9e27b1ee6b822ec4cb3e732f8", func := "example.com/chorale/chorale.LawS1836CWritten", spec := "lawS1836CWritten", inPlace := ["(*internal/sync.Mutex).Lock", "internal/race.Disable", "sync/atomic.CompareAndSwapInt32", "internal/race.Enable", "internal/race.Acquire", "(*internal/sync.Mutex).lockSlow", "internal/sync.runtime_canSpin", "internal/sync.runtime_doSpin", "internal/sync.throw", "internal/sync.runtime_nanotime", "internal/sync.runtime_SemacquireMutex", "sync/atomic.AddInt32", "(*internal/sync.Mutex).Unlock", "internal/race.ReleaseMerge", "(*internal/sync.Mutex).unlockSlow", "internal/sync.fatal", "internal/sync.runtime_Semrelease"], unfollowed := true, recurses := true, plainKeys := false, apart := false }
def LawS1836CWrittenSaid : Prop := lawS1836CWrittenRow.holds Yba.pinned (OpenSpec.ofChange lawS1836CWrittenSpec)

/-- ITS FALSE NEIGHBOUR: 'it returns false'. Refute it at one input. -/
def lawS1836CWrittenWrong : ChangeSpec := { name := "lawS1836CWritten", fn := fun _ => fun
  | [d1, d2, d3, d4, d5, d6, d7, d8] => { results := [.lit (.bool false)], args := [d1, d2, d3, d4, d5, d6, d7, d8] }
  | _ => none }
def LawS1836CWrittenWrongFalsely : Prop := lawS1836CWrittenRow.holds Yba.pinned (OpenSpec.ofChange lawS1836CWrittenWrong)

end Rows
end Go.Proofs.Ybulkakzq
