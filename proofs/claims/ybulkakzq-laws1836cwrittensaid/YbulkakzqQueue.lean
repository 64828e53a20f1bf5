/-
  chorale.queue: contracts of newQueue, full, the law's closure, written.
-/
import Derived.Test.YbulkakzqLocks
import Derived.Test.YbulkakzqBlocks
import Derived.Conc.SmallLaws
import Derived.Laws.EntriesVeiled
import Derived.Deep.QuietTactic
import Derived.BigQuiet
import Derived.BigRegion
import Derived.RegionTactic
namespace Go.Proofs.Ybulkakzq.Queue
open Go.RowKit Go.MuLone Blocks
set_option linter.unusedVariables false

/-- The eighteen cells of a queue. -/
def qc (lim mu : Int) (fr : Value) (held siz : Int) (room : Value) (fin : Bool) (x y z : Value) : Array Value :=
  #[.int .i64 0, .int .i64 lim, .int .i32 mu, .int .u32 0, fr, .int .i64 held, .int .i64 siz, room, .bool fin, .nilIface, x, y, z, .int .u32 0, .int .i32 0, .int .u32 0, .chan none, .chan none]

theorem new_close (w : World) (o1 o2 o3 : Obj) (c : Array Value) (T : Nat) :
    ((((w.alloc o1).alloc o2).alloc o3).alloc (.cells c T)).drew.heap[w.heap.size + 1 + 1 + 1]? = some (.cells c T (0, 0)) ∧ Below w.heap.size w ((((w.alloc o1).alloc o2).alloc o3).alloc (.cells c T)).drew := by
  refine ⟨?_, ?_⟩
  · have := heap_alloc_new (((w.alloc o1).alloc o2).alloc o3) (.cells c T)
    have e : (((w.alloc o1).alloc o2).alloc o3).heap.size = w.heap.size + 1 + 1 + 1 := by simp
    rw [e] at this
    exact this
  · exact (((((Below.refl _ w).alloc (Nat.le_refl _) _).alloc (by simp) _).alloc (by simp; omega) _).alloc (by simp; omega) _).drew

set_option maxHeartbeats 1000000 in
set_option maxRecDepth 100000 in
theorem new_any (w : World) :
    Calls Yba.prog 15 #[.int .i64 0] w fun e w' => ∃ (b : Nat) (x y z : Value), e = .returned (.pointer (some ⟨b, 0, none⟩)) ∧ w.heap.size ≤ b ∧ w'.heap[b]? = some (.cells (qc 0 0 (.slice none 0 0) 0 0 (.slice none 0 0) false x y z) 140 (0, 0)) ∧ Below w.heap.size w w' := by
  have m1 : ∀ w : World, (Instr.makeChan 132 (.int .i64 1)).run Yba.prog w = .ok (.chan (some w.heap.size)) (w.alloc (.chan 1 #[] false 0 0 false)) := fun _ => by kernel_rfl
  have m2 : ∀ w : World, (Instr.makeChan 133 (.int .i64 1)).run Yba.prog w = .ok (.chan (some w.heap.size)) (w.alloc (.chan 1 #[] false 0 0 false)) := fun _ => by kernel_rfl
  have m3 : ∀ w : World, (Instr.makeChan 132 (.int .i64 0)).run Yba.prog w = .ok (.chan (some w.heap.size)) (w.alloc (.chan 0 #[] false 0 0 false)) := fun _ => by kernel_rfl
  go_enter Yba.func15, Yba.ntmps15
  go_wp2
  go_region
  all_goals go_wp2
  all_goals go_ret
  all_goals exact ⟨_, _, _, _, rfl, by omega, (new_close w _ _ _ _ _).1, (new_close w _ _ _ _ _).2⟩

/-- Is the queue full? -/
def fullB (lim held siz : Int) : Bool := if 0 < lim then decide (lim ≤ siz) else decide (256 ≤ held)

set_option maxHeartbeats 1000000 in
set_option maxRecDepth 100000 in
theorem full_any (b : Nat) (lim held siz : Int) (w : World) (c1 : w.cell? ⟨b, 1, none⟩ = some (.int .i64 lim)) (c5 : w.cell? ⟨b, 5, none⟩ = some (.int .i64 held)) (c6 : w.cell? ⟨b, 6, none⟩ = some (.int .i64 siz)) :
    Calls Yba.prog 27 #[.pointer (some ⟨b, 0, none⟩)] w fun e w' => e = .returned (.bool (fullB lim held siz)) ∧ ∃ n, w' = w.drewN n := by
  unfold fullB
  by_cases h : 0 < lim
  · rw [if_pos h]
    go_enter Yba.func27, Yba.ntmps27
    go_wp2
    go_quiet (fail)
    go_wp2
    go_ret
    exact ⟨rfl, _, rfl⟩
  · rw [if_neg h]
    go_enter Yba.func27, Yba.ntmps27
    go_wp2
    go_ret
    exact ⟨rfl, 0, rfl⟩

theorem info3 : (Yba.prog.info? 3).map (fun i => (i.zero, i.size, i.bytes)) = some (some (.int .i64 0), 1, 8) := by kernel_rfl
theorem info1 : (Yba.prog.info? 1).map (fun i => (i.zero, i.size, i.bytes)) = some (some .nilFunc, 1, 8) := by kernel_rfl

/-- The numbers 0 .. n - 1 as cells. -/
def upto (n : Nat) : List Value := (List.range n).map fun t : Nat => .int .i64 (t : Int)
theorem upto_succ (n : Nat) : upto (n + 1) = upto n ++ [.int .i64 (n : Int)] := by simp [upto, List.range_succ]

set_option maxHeartbeats 1000000 in
set_option maxRecDepth 100000 in
/-- The law's closure: 'log = append(log, j)'. -/
theorem clos_any (B lb jb n : Nat) (xs : List Value) (lv : Value) (j : Int) (w : World) (hl : w.heap[lb]? = some (.cells #[lv] 111 (0, 0))) (hj : w.cell? ⟨jb, 0, none⟩ = some (.int .i64 j)) (hjb : jb ≠ lb) (hown : w.ownsRow B 3 1 lv n xs) (hlB : lb < B) (hB : B ≤ w.heap.size) (hn : n ≤ 1000) :
    Calls Yba.prog 16 #[.pointer (some ⟨lb, 0, none⟩), .pointer (some ⟨jb, 0, none⟩)] w fun e w' => e = .returned (.tuple #[]) ∧ ∃ lv', w'.heap[lb]? = some (.cells #[lv'] 111 (0, 0)) ∧ w'.ownsRow B 3 1 lv' (n + 1) (xs ++ [.int .i64 j]) ∧ Fr B (fun k => k = lb) w w' := by
  obtain ⟨i0, hi, hz0, hz1, hz2⟩ := info_parts info3
  have c0 : w.cell? ⟨lb, 0, none⟩ = some lv := blk_cell hl 0
  have HL : Hid (w.heap[lb]? = some (.cells #[lv] 111 (0, 0))) := hl
  clear hl
  go_enter Yba.func16, Yba.ntmps16
  go_wp2_with (at_builtin; refine wpList_append_own _ rfl (.tmp 2) (.tmp 4) 111 rfl B 3 i0 (.int .i64 0) 1 8 Yba.underlying111 hi hz0 hz1 hz2 rfl (by decide) _ _ _ rfl (hown.alloc _) _ 1 1 [.int .i64 j] rfl rfl ?c1 ?c2 ?c3 ?c4 ?c5 ?_)
  case c1 => exact cell_one_new _ _ _
  case c2 => intro u hu; simp at hu; subst hu; rfl
  case c3 => unfold maxLen; omega
  case c4 => omega
  case c5 => simp; omega
  intro v1 w1 hown1 hgrow1 _
  have hl1 : w1.heap[lb]? = some (.cells #[lv] 111 (0, 0)) := keepBlk (by decide) (blk_alloc HL.out) (hown.alloc _) hgrow1
  have f1 : Fr B (fun k => k = lb) w w1 := ((Fr.refl _ _ _).alloc hB _).grown hgrow1 (by simp; omega) (fun k hk => .inl (hown.lt k hk).1)
  have c1 : w1.cell? ⟨lb, 0, none⟩ = some lv := blk_cell hl1 0
  have z1 : w1.frozen? ⟨lb, 0, none⟩ = false := blk_free hl1 0
  obtain ⟨g, cap, hv1, hBg, _⟩ := owns_row hown1 (by omega)
  subst hv1
  have HL1 : Hid (w1.heap[lb]? = some (.cells #[lv] 111 (0, 0))) := hl1
  clear hl1 hgrow1
  go_wp2
  go_end0
  refine ⟨rfl, .slice (some ⟨g, 0, none⟩) (n + 1) cap, ?_, ?_, ?_⟩
  · simpa using blk_set HL1.out 0 _
  · exact ownsRow_setCell_below hown1 (by simpa using hlB) _
  · exact f1.setCell (.inr rfl) _

end Go.Proofs.Ybulkakzq.Queue
