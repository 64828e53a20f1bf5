/-
  NewGroup; the six names.
-/
import Derived.Test.YbulkakzqRoute
namespace Go.Proofs.Ybulkakzq.New
open Go.RowKit Wire Blocks Box Votes Names Rd Split
set_option linter.unusedVariables false
set_option maxRecDepth 100000

def six : List ByteArray := [⟨#[97]⟩, ⟨#[98]⟩, ⟨#[99]⟩, ⟨#[100]⟩, ⟨#[101]⟩, ⟨#[102]⟩]
def nameAt (i : Nat) : ByteArray := six.getD i ⟨#[]⟩

theorem new_at {w : World} {o : Obj} {N : Nat} (hN : N = w.heap.size) : (w.alloc o).heap[N]? = some o := by subst hN; exact heap_alloc_new w o

/-- What NewGroup leaves. -/
def NewOut (w w' : World) (e : Ending) (root : Bool) : Prop :=
  ∃ gb nb c, e = .returned (.pointer (some ⟨gb, 0, none⟩)) ∧ w'.heap[gb]? = some (.cells c 109 (0, 0)) ∧ c[11]? = some (.map (some nb)) ∧ c[3]? = some (.bool root) ∧ SM w' nb [] ∧ w.heap.size ≤ gb ∧ w.heap.size ≤ nb ∧ Below w.heap.size w w'

set_option maxHeartbeats 2000000 in
theorem newg_nil (w : World) : Calls Yba.prog 8 #[.nilIface] w fun e w' => NewOut w w' e true := by
  have m1 : ∀ w, (Instr.makeMap 96 none).run Yba.prog w = .ok (.map (some w.heap.size)) (w.alloc (.map #[] 0)) := fun w => by kernel_rfl
  have m2 : ∀ w, (Instr.makeMap 63 none).run Yba.prog w = .ok (.map (some w.heap.size)) (w.alloc (.map #[] 0)) := fun w => by kernel_rfl
  have m3 : ∀ w, (Instr.makeMap 106 none).run Yba.prog w = .ok (.map (some w.heap.size)) (w.alloc (.map #[] 0)) := fun w => by kernel_rfl
  have m4 : ∀ w, (Instr.makeMap 107 none).run Yba.prog w = .ok (.map (some w.heap.size)) (w.alloc (.map #[] 0)) := fun w => by kernel_rfl
  go_enter Yba.func8, Yba.ntmps8
  go_wp2
  go_ret
  refine ⟨_, w.heap.size, _, rfl, new_at (by simp), ?_, ?_, ⟨#[], 0, ?_, rfl⟩, ?_, ?_, ?_⟩
  · rfl
  · rfl
  · exact blk_alloc (blk_alloc (blk_alloc (blk_alloc (heap_alloc_new w _))))
  · omega
  · exact Nat.le_refl _
  · have h0 := (Below.refl _ w).alloc (Nat.le_refl _) (.map #[] 0)
    have h1 := h0.alloc h0.size (.map #[] 0)
    have h2 := h1.alloc h1.size (.map #[] 0)
    have h3 := h2.alloc h2.size (.map #[] 0)
    exact h3.alloc h3.size _

set_option maxHeartbeats 2000000 in
theorem newg_box (xb : Nat) (w : World) : Calls Yba.prog 8 #[.iface 36 (.pointer (some ⟨xb, 0, none⟩))] w fun e w' => NewOut w w' e false := by
  have m1 : ∀ w, (Instr.makeMap 96 none).run Yba.prog w = .ok (.map (some w.heap.size)) (w.alloc (.map #[] 0)) := fun w => by kernel_rfl
  have m2 : ∀ w, (Instr.makeMap 63 none).run Yba.prog w = .ok (.map (some w.heap.size)) (w.alloc (.map #[] 0)) := fun w => by kernel_rfl
  have m3 : ∀ w, (Instr.makeMap 106 none).run Yba.prog w = .ok (.map (some w.heap.size)) (w.alloc (.map #[] 0)) := fun w => by kernel_rfl
  have m4 : ∀ w, (Instr.makeMap 107 none).run Yba.prog w = .ok (.map (some w.heap.size)) (w.alloc (.map #[] 0)) := fun w => by kernel_rfl
  go_enter Yba.func8, Yba.ntmps8
  go_wp2
  go_ret
  refine ⟨_, w.heap.size, _, rfl, new_at (by simp), ?_, ?_, ⟨#[], 0, ?_, rfl⟩, ?_, ?_, ?_⟩
  · rfl
  · rfl
  · exact blk_alloc (blk_alloc (blk_alloc (blk_alloc (heap_alloc_new w _))))
  · omega
  · exact Nat.le_refl _
  · have h0 := (Below.refl _ w).alloc (Nat.le_refl _) (.map #[] 0)
    have h1 := h0.alloc h0.size (.map #[] 0)
    have h2 := h1.alloc h1.size (.map #[] 0)
    have h3 := h2.alloc h2.size (.map #[] 0)
    exact h3.alloc h3.size _
end Go.Proofs.Ybulkakzq.New
