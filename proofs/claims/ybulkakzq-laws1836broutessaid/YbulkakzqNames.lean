/-
  A MAP from strings to pointers, as a list of pairs.
-/
import Derived.Test.YbulkakzqCalls
import Derived.Laws.StructEq
namespace Go.Proofs.Ybulkakzq.Names
open Go.RowKit Blocks Votes
set_option linter.unusedVariables false
set_option maxRecDepth 100000

theorem beq_dec (x y : ByteArray) : (x == y) = decide (x = y) := by
  rw [beq_toListBytes]
  by_cases h : x = y
  · rw [decide_eq_true h]; exact (Lib.bytes_beq_iff x y).2 h
  · rw [decide_eq_false h]; exact (Lib.bytes_beq_false_iff x y).2 h

/-- Block m is a map that holds those pairs. -/
def SM (w : World) (m : Nat) (L : List (ByteArray × Value)) : Prop :=
  ∃ es clock, w.heap[m]? = some (.map es clock) ∧ es.toList.map (fun e => (e.key, e.val)) = L.map (fun p => (Value.string p.1, p.2))

def posS (x : ByteArray) : List (ByteArray × Value) → Nat → Option (Nat × Value)
  | [], _ => none
  | p :: ps, i => if x = p.1 then some (i, p.2) else posS x ps (i + 1)

theorem now (x : ByteArray) : ∀ (es : List MapEntry) (L : List (ByteArray × Value)) (i : Nat), es.map (fun e => (e.key, e.val)) = L.map (fun p => (Value.string p.1, p.2)) → Instr.findNow .string (.string x) es i = some (posS x L i)
  | [], [], _, _ => rfl
  | [], _ :: _, _, h => by simp at h
  | _ :: _, [], _, h => by simp at h
  | e :: es, p :: ps, i, h => by
    simp only [List.map_cons, List.cons.injEq, Prod.mk.injEq] at h
    unfold Instr.findNow
    rw [h.1.1, h.1.2]
    simp only [Instr.sameNow, beq_dec]
    by_cases e1 : x = p.1
    · simp [e1, posS]
    · simp only [e1, decide_false, posS, if_false]
      exact now x es ps (i + 1) h.2

def looked (x : ByteArray) (L : List (ByteArray × Value)) : Value := match posS x L 0 with
  | some (_, v) => v
  | none => .pointer none

theorem look_run {w : World} {m : Nat} {L : List (ByteArray × Value)} (h : SM w m L) (x : ByteArray) :
    (Instr.lookup 96 (.map (some m)) (.string x) false).run Yba.prog w = .ok (looked x L) w := by
  obtain ⟨es, clock, hm, hk⟩ := h
  have z : (zeroValue 77).run Yba.prog w = .ok (.pointer none) w := by kernel_rfl
  have hc : ∀ e, (Instr.checkKey e 10000 9 (.string x)).run Yba.prog w = .ok () w := fun e => by kernel_rfl
  unfold Instr.lookup
  simp only [Sem.run_bind, run_underlying Yba.underlying96, Result.andThen_ok, MapKept.run_getObj_map hm, Sem.run_pure, hc]
  simp only [Instr.findKey, Sem.run_bind, run_underlying Yba.underlying9, Result.andThen_ok, now x es.toList L 0 hk, Sem.run_pure, looked]
  cases posS x L 0 with
  | none => simp [z]
  | some p => simp

theorem posS_none {x : ByteArray} : ∀ {L : List (ByteArray × Value)} {i : Nat}, (∀ p ∈ L, p.1 ≠ x) → posS x L i = none
  | [], _, _ => rfl
  | p :: ps, i, h => by
    simp only [posS, if_neg (Ne.symm (h p (by simp)))]
    exact posS_none (fun q hq => h q (by simp [hq]))

theorem upd_run {w : World} {m : Nat} {L : List (ByteArray × Value)} (h : SM w m L) {x : ByteArray} (v : Value) (hx : ∀ p ∈ L, p.1 ≠ x) :
    ∃ w', (Instr.mapUpdate 96 (.map (some m)) (.string x) v).run Yba.prog w = .ok () w' ∧ SM w' m (L ++ [(x, v)]) ∧ w.grownBy w' (some m) := by
  obtain ⟨es, clock, hm, hk⟩ := h
  have hlt : m < w.heap.size := blk_lt hm
  have hc : ∀ e, (Instr.checkKey e 10000 9 (.string x)).run Yba.prog w = .ok () w := fun e => by kernel_rfl
  refine ⟨{ w with heap := w.heap.setIfInBounds m (.map (es.push { key := .string x, val := v, born := clock }) (clock + 1)) }, ?_, ⟨es.push { key := .string x, val := v, born := clock }, clock + 1, set_at hlt _, by simp [hk]⟩, grown_set _ _ _⟩
  unfold Instr.mapUpdate
  simp only [Sem.run_bind, run_underlying Yba.underlying96, Result.andThen_ok, MapKept.run_getObj_map hm, hc]
  simp only [Instr.findKey, Sem.run_bind, run_underlying Yba.underlying9, Result.andThen_ok, now x es.toList L 0 hk, Sem.run_pure, posS_none hx]
  simp [MapKept.run_setObj_map _ hm]

theorem SM.block {w w' : World} {m : Nat} {L : List (ByteArray × Value)} (h : SM w m L) (hb : w'.heap[m]? = w.heap[m]?) : SM w' m L := by
  obtain ⟨es, clock, h1, h2⟩ := h
  exact ⟨es, clock, by rw [hb]; exact h1, h2⟩
theorem SM.lt {w : World} {m : Nat} {L : List (ByteArray × Value)} (h : SM w m L) : m < w.heap.size := by obtain ⟨es, clock, h1, _⟩ := h; exact blk_lt h1

set_option maxHeartbeats 2000000 in
/-- No claim of that name. -/
theorem route_none (gb nb : Nat) (x : ByteArray) (fp root : Bool) (L : List (ByteArray × Value)) (w : World) (hn : SM w nb L) (h11 : w.cell? ⟨gb, 11, none⟩ = some (.map (some nb))) (hr : w.cell? ⟨gb, 3, none⟩ = some (.bool root)) (hl : looked x L = .pointer none) :
    Calls Yba.prog 30 #[.pointer (some ⟨gb, 0, none⟩), .string x, .bool fp] w fun e w' => e = .returned (.tuple #[.pointer none, .bool (!root && !fp)]) ∧ w' = w := by
  have hlk := look_run hn x
  rw [hl] at hlk
  clear hn hl
  cases root <;> cases fp
  all_goals
    go_enter Yba.func30, Yba.ntmps30
    go_wp2
    go_ret2
    exact ⟨rfl, rfl⟩

set_option maxHeartbeats 2000000 in
/-- A claim, granted or not. -/
theorem route_claim (gb nb cb ob : Nat) (x : ByteArray) (fp root gr : Bool) (L : List (ByteArray × Value)) (w : World) (hn : SM w nb L) (h11 : w.cell? ⟨gb, 11, none⟩ = some (.map (some nb))) (hr : w.cell? ⟨gb, 3, none⟩ = some (.bool root)) (hl : looked x L = .pointer (some ⟨cb, 0, none⟩))
    (h0 : w.cell? ⟨cb, 0, none⟩ = some (.pointer (some ⟨ob, 0, none⟩))) (hgr : w.cell? ⟨cb, 12, none⟩ = some (.bool gr)) :
    Calls Yba.prog 30 #[.pointer (some ⟨gb, 0, none⟩), .string x, .bool fp] w fun e w' => e = .returned (if gr then .tuple #[.pointer (some ⟨ob, 0, none⟩), .bool false] else .tuple #[.pointer none, .bool (!root && !fp)]) ∧ w' = w := by
  have hlk := look_run hn x
  rw [hl] at hlk
  clear hn hl
  cases root <;> cases fp <;> cases gr
  all_goals
    go_enter Yba.func30, Yba.ntmps30
    go_wp2
    go_ret2
    exact ⟨rfl, rfl⟩
end Go.Proofs.Ybulkakzq.Names
