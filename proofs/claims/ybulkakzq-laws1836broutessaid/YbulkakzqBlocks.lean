/-
  SMALL LAWS ON BLOCKS: a frame that lets some blocks turn; a block's cells; a store into a block that is known whole. No program is named.
-/
import Derived.WalkKit
import Derived.WalkLawsBesides
import Derived.Maps.AppendAt
namespace Go.Proofs.Ybulkakzq.Blocks
open Go.RowKit

/-- Below block number B, but for the blocks that x tells, the world w' is as w was. -/
structure Fr (B : Nat) (x : Nat → Prop) (w w' : World) : Prop where
  os : w'.os = w.os
  tape : w'.tape = w.tape
  output : w'.output = w.output
  size : w.heap.size ≤ w'.heap.size
  block : ∀ k, k < B → ¬ x k → w'.heap[k]? = w.heap[k]?

section
variable {B : Nat} {x : Nat → Prop} {a w w' : World}

theorem Fr.refl (B : Nat) (x : Nat → Prop) (w : World) : Fr B x w w := ⟨rfl, rfl, rfl, Nat.le_refl _, fun _ _ _ => rfl⟩
theorem Fr.trans (h : Fr B x a w) (k : Fr B x w w') : Fr B x a w' :=
  ⟨k.os.trans h.os, k.tape.trans h.tape, k.output.trans h.output, Nat.le_trans h.size k.size, fun i hi hx => (k.block i hi hx).trans (h.block i hi hx)⟩
theorem Fr.of_below (h : Below B w w') : Fr B x w w' := ⟨h.os, h.tape, h.output, h.size, fun k hk _ => h.block k hk⟩
theorem Fr.mono {B' : Nat} {y : Nat → Prop} (h : Fr B x w w') (hB : B' ≤ B) (hx : ∀ k, k < B' → x k → y k) : Fr B' y w w' :=
  ⟨h.os, h.tape, h.output, h.size, fun k hk hy => h.block k (by omega) (fun hk' => hy (hx k hk hk'))⟩
theorem Fr.below {A : Nat} (h : Fr B x w w') (hA : A ≤ B) (hx : ∀ k, k < A → ¬ x k) : Below A w w' :=
  ⟨h.os, h.tape, h.output, h.size, fun k hk => h.block k (by omega) (hx k hk)⟩
theorem Fr.drew (h : Fr B x a w) : Fr B x a w.drew := ⟨h.os, h.tape, h.output, h.size, h.block⟩
theorem Fr.drewN (h : Fr B x a w) (n : Nat) : Fr B x a (w.drewN n) := ⟨h.os, h.tape, h.output, h.size, h.block⟩
theorem Fr.alloc (h : Fr B x a w) (hB : B ≤ w.heap.size) (o : Obj) : Fr B x a (w.alloc o) :=
  h.trans (Fr.of_below ((Below.refl B w).alloc hB o))
theorem Fr.setCell (h : Fr B x a w) {p : Addr} (hp : B ≤ p.block ∨ x p.block) (u : Value) : Fr B x a (w.setCell p u) :=
  h.trans ⟨rfl, rfl, rfl, by simp [World.setCell], fun k hk hx => Below.heap_setCell _ _ _ _ (by rcases hp with hp | hp; omega; exact fun e => hx (e ▸ hp))⟩
theorem Fr.setIn {b : Nat} (h : Fr B x a w) (hx : x b) (i : Nat) (u : Value) : Fr B x a (w.setCell ⟨b, i, none⟩ u) := Fr.setCell (p := ⟨b, i, none⟩) h (.inr hx) u
theorem Fr.grown {row : Option Nat} (h : Fr B x a w) (hg : w.grownBy w' row) (hB : B ≤ w.heap.size) (hr : ∀ k, row = some k → B ≤ k ∨ x k) : Fr B x a w' :=
  h.trans ⟨hg.os, hg.tape, hg.output, hg.size, fun k hk hx => hg.block k (by omega) (fun e => by rcases hr k e.symm with h | h; omega; exact hx h)⟩
end

/-- A block that is known whole: its cells, and that none is frozen. -/
theorem blk_cell {w : World} {b T : Nat} {c : Array Value} (h : w.heap[b]? = some (.cells c T (0, 0))) (j : Nat) : w.cell? ⟨b, j, none⟩ = c[j]? := by simp [World.cell?, h]
theorem blk_free {w : World} {b T : Nat} {c : Array Value} (h : w.heap[b]? = some (.cells c T (0, 0))) (j : Nat) : w.frozen? ⟨b, j, none⟩ = false := by simp [World.frozen?, h]
theorem blk_set {w : World} {b T : Nat} {c : Array Value} (h : w.heap[b]? = some (.cells c T (0, 0))) (j : Nat) (v : Value) : (w.setCell ⟨b, j, none⟩ v).heap[b]? = some (.cells (c.setIfInBounds j v) T (0, 0)) := by
  simp [World.setCell, Array.getElem?_modify, h]
theorem blk_set_drewN {w : World} {b T : Nat} {c : Array Value} (h : w.heap[b]? = some (.cells c T (0, 0))) (n j : Nat) (v : Value) : ((w.drewN n).setCell ⟨b, j, none⟩ v).heap[b]? = some (.cells (c.setIfInBounds j v) T (0, 0)) := blk_set (w := w.drewN n) h j v
theorem blk_set_other {w : World} {b : Nat} {a : Addr} {v : Value} (h : b ≠ a.block) : (w.setCell a v).heap[b]? = w.heap[b]? := Below.heap_setCell _ _ _ _ h
theorem blk_lt {w : World} {b : Nat} {o : Obj} (h : w.heap[b]? = some o) : b < w.heap.size := (Array.getElem?_eq_some_iff.1 h).1
theorem blk_alloc {w : World} {b : Nat} {o o' : Obj} (h : w.heap[b]? = some o) : (w.alloc o').heap[b]? = some o := by rw [Below.heap_alloc w o' b (blk_lt h)]; exact h

/-- A block of another element type stays while an owned slice grows. -/
theorem keepBlk {w w' : World} {B n L T e size : Nat} {v : Value} {xs : List Value} {c : Array Value} (hT : T ≠ e) (hL : w.heap[L]? = some (.cells c T (0, 0))) (ho : w.ownsRow B e size v n xs) (hg : w.grownBy w' v.ownBlock) :
    w'.heap[L]? = some (.cells c T (0, 0)) := by
  rw [hg.block L (blk_lt hL) ?_]
  · exact hL
  · intro e
    rcases ho.2 with ⟨rfl, _⟩ | ⟨g, cap, cur, rfl, hb, hh, _⟩
    · simp [Value.ownBlock] at e
    · simp [Value.ownBlock] at e
      subst e
      rw [hL] at hh
      simp at hh
      exact hT hh.2

/-- The form of a value that owns something, and its cells. -/
theorem owns_row {w : World} {B n e : Nat} {v : Value} {ys : List Value} (h : w.ownsRow B e 1 v n ys) (hn : 0 < n) :
    ∃ g cap, v = .slice (some ⟨g, 0, none⟩) n cap ∧ B ≤ g ∧ g < w.heap.size ∧ ys.length = n ∧ n ≤ cap ∧ (∀ j u, ys[j]? = some u → w.cell? ⟨g, j, none⟩ = some u) ∧ ∃ cur, w.heap[g]? = some (.cells cur e (0, 0)) := by
  have hl : ys.length = n := by have := h.1; simpa using this
  rcases h.2 with ⟨_, h0⟩ | ⟨g, cap, cur, rfl, hb, hh, hc, _⟩
  · omega
  · refine ⟨g, cap, rfl, hb, blk_lt hh, hl, hc, fun j u hj => ?_, cur, hh⟩
    have := h.cells (g := g) rfl j u hj
    rw [Addr.add_lit] at this
    simpa using this

theorem owns_nil {w : World} {B e : Nat} {v : Value} {ys : List Value} (h : w.ownsRow B e 1 v 0 ys) : ∃ ao cap, v = .slice ao 0 cap := by
  rcases h.2 with ⟨rfl, _⟩ | ⟨g, cap, cur, rfl, _⟩
  · exact ⟨_, _, rfl⟩
  · exact ⟨_, _, rfl⟩

/-- The form of a value that owns its cells, whatever its length. -/
theorem owns_any {w : World} {B n e : Nat} {v : Value} {ys : List Value} (h : w.ownsRow B e 1 v n ys) :
    ∃ ao cap, v = .slice ao n cap ∧ ys.length = n ∧ ∀ j u, ys[j]? = some u → ∃ g, ao = some ⟨g, 0, none⟩ ∧ B ≤ g ∧ w.cell? ⟨g, j, none⟩ = some u := by
  have hl : ys.length = n := by have := h.1; simpa using this
  by_cases hn : 0 < n
  · obtain ⟨g, cap, rfl, hB, _, _, _, hc, _⟩ := owns_row h hn
    exact ⟨_, _, rfl, hl, fun j u hj => ⟨g, rfl, hB, hc j u hj⟩⟩
  · obtain rfl : n = 0 := by omega
    obtain ⟨ao, cap, rfl⟩ := owns_nil h
    refine ⟨_, _, rfl, hl, fun j u hj => ?_⟩
    have := (List.getElem?_eq_some_iff.1 hj).1
    omega

end Go.Proofs.Ybulkakzq.Blocks
