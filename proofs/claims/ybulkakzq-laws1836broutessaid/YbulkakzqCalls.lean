/-
  SMALL CALLEES of LawS1836BRoutes: make, put, has.
-/
import Derived.Test.YbulkakzqVotes
namespace Go.Proofs.Ybulkakzq.Callees
open Go.RowKit Blocks Votes
set_option linter.unusedVariables false
set_option maxRecDepth 100000

set_option maxHeartbeats 1000000 in
theorem make_any (p off : Nat) (old : Value) (w : World) (hc : w.cell? ⟨p, off, none⟩ = some old) (hf : w.frozen? ⟨p, off, none⟩ = false) (hp : p < w.heap.size) :
    Calls Yba.prog 9 #[.pointer (some ⟨p, off, none⟩)] w fun e w' => e = .returned (.tuple #[]) ∧ w' = (w.setCell ⟨p, off, none⟩ (.map (some w.heap.size))).alloc (.map #[] 0) := by
  have hc' := Lib.cell?_alloc_some (.map #[] 0) hc
  have hmk : (Instr.makeMap 51 none).run Yba.prog w = .ok (.map (some w.heap.size)) (w.alloc (.map #[] 0)) := by kernel_rfl
  have hf' : (w.alloc (.map #[] 0)).frozen? ⟨p, off, none⟩ = false := by rw [World.frozen?_of_block (a := ⟨p, off, none⟩) (Below.heap_alloc w _ p hp)]; exact hf
  go_enter Yba.func9, Yba.ntmps9
  go_wp2
  go_end0
  exact ⟨rfl, rfl⟩

set_option maxHeartbeats 1000000 in
theorem put_any (m : Nat) (s : ByteArray) (a b : Int) (S : List ByteArray) (x : ByteArray) (w : World) (h : UM w m s a b S) (hx : x ∉ S) :
    Calls Yba.prog 10 #[.map (some m), kv s a b x] w fun e w' => e = .returned (.tuple #[]) ∧ UM w' m s a b (S ++ [x]) ∧ Fr w.heap.size (fun k => k = m) w w' := by
  have hm := h.lt
  have h' : UM (w.alloc (.cells #[.string s, .int .u64 a, .int .u64 b, .string x] 76)) m s a b S := h.block (Below.heap_alloc w _ m hm)
  obtain ⟨w2, hrun, h2, hg⟩ := put_run h' hx
  simp only [kv] at hrun
  show Calls Yba.prog 10 #[.map (some m), .agg #[.string s, .int .u64 a, .int .u64 b, .string x]] w _
  go_enter Yba.func10, Yba.ntmps10
  go_wp2
  go_end0
  refine ⟨rfl, h2, ?_⟩
  exact (Fr.alloc (Fr.refl _ _ _) (Nat.le_refl _) _).grown hg (by simp) (fun k hk => .inr (by simpa using hk.symm))

set_option maxHeartbeats 1000000 in
theorem has_any (m : Nat) (s : ByteArray) (a b : Int) (S : List ByteArray) (x : ByteArray) (w : World) (h : UM w m s a b S) :
    Calls Yba.prog 14 #[.map (some m), kv s a b x] w fun e w' => ∃ t : Bool, (t = true ↔ x ∈ S) ∧ e = .returned (.bool t) ∧ Below w.heap.size w w' := by
  have hm := h.lt
  have h' : UM (w.alloc (.cells #[.string s, .int .u64 a, .int .u64 b, .string x] 76)) m s a b S := h.block (Below.heap_alloc w _ m hm)
  obtain ⟨t, ht, hrun⟩ := has_run h' x
  have HT : Hid (t = true ↔ x ∈ S) := ht
  clear ht
  simp only [kv] at hrun
  show Calls Yba.prog 14 #[.map (some m), .agg #[.string s, .int .u64 a, .int .u64 b, .string x]] w _
  go_enter Yba.func14, Yba.ntmps14
  go_wp2
  go_ret
  exact ⟨t, HT.out, rfl, (Below.refl _ w).alloc (Nat.le_refl _) _⟩
end Go.Proofs.Ybulkakzq.Callees
