/-
  THE HOPS: the predicate of split, slices.IndexFunc over hops.
-/
import Derived.Test.YbulkakzqQueueOut
import Derived.LaidEql
namespace Go.Proofs.Ybulkakzq.Hops
open Go.RowKit Blocks Box
set_option linter.unusedVariables false
set_option maxRecDepth 100000

theorem info71 : (Yba.prog.info? 71).map (fun i => decide (i.size = 0)) = some false := by kernel_rfl

theorem eqP {w : World} {p q T T' : Nat} {c c' : Array Value} (hp : w.heap[p]? = some (.cells c T (0, 0))) (hq : w.heap[q]? = some (.cells c' T' (0, 0))) :
    (binOp .eql 42 (.pointer (some ⟨p, 0, none⟩)) (.pointer (some ⟨q, 0, none⟩))).run Yba.prog w = .ok (.bool (decide (p = q))) w := by
  obtain ⟨j, hj, hj0⟩ := Option.map_eq_some_iff.1 info71
  have hjs : ¬ j.size = 0 := by simpa using hj0
  by_cases h : p = q
  · subst h
    have h1 : ∀ d : Nat, (Op.equalIn (d + 1) 42 (.pointer (some ⟨p, 0, none⟩)) (.pointer (some ⟨p, 0, none⟩))).run Yba.prog w = .ok true w := fun d => by
      simp [Op.equalIn, run_underlying Yba.underlying42, sizeOf, typeInfo, hj, run_sameAddr_same]
    simp only [binOp]
    simp [Op.equal, Op.maxDepth, h1 9999]
  · have h0 : (⟨p, 0, none⟩ : Addr) ≠ ⟨q, 0, none⟩ := fun e => h (by injection e)
    have hs := run_sameAddr_other (P := Yba.prog) (w := w) h0 hp hq
    have h1 : ∀ d : Nat, (Op.equalIn (d + 1) 42 (.pointer (some ⟨p, 0, none⟩)) (.pointer (some ⟨q, 0, none⟩))).run Yba.prog w = .ok false w := fun d => by
      simp [Op.equalIn, run_underlying Yba.underlying42, sizeOf, typeInfo, hj, hs, hjs]
    simp only [binOp]
    simp [Op.equal, Op.maxDepth, h1 9999, h]

set_option maxHeartbeats 1000000 in
theorem pred_any (p q tb T T' : Nat) (nv : Value) (c c' : Array Value) (w : World) (hp : w.heap[p]? = some (.cells c T (0, 0))) (hq : w.heap[q]? = some (.cells c' T' (0, 0))) (ht : w.cell? ⟨tb, 0, none⟩ = some (.pointer (some ⟨q, 0, none⟩))) :
    Calls Yba.prog 32 #[.agg #[.pointer (some ⟨p, 0, none⟩), nv], .pointer (some ⟨tb, 0, none⟩)] w fun e w' => e = .returned (.bool (decide (p = q))) ∧ Below w.heap.size w w' := by
  have he := eqP (w := w.alloc (.cells #[.pointer (some ⟨p, 0, none⟩), nv] 153)) (blk_alloc hp) (blk_alloc hq)
  have ht' := Lib.cell?_alloc_some (.cells #[.pointer (some ⟨p, 0, none⟩), nv] 153) ht
  clear ht hp hq
  go_enter Yba.func32, Yba.ntmps32
  go_wp2
  go_ret
  exact ⟨rfl, (Below.refl _ w).alloc (Nat.le_refl _) _⟩
/-- What the search answers: the place of the hop to peer q, or -1. -/
def FoundP (hs : List (Nat × Value)) (q : Nat) (i : Int) : Prop :=
  ((∀ (j : Nat) (h : Nat × Value), hs[j]? = some h → h.1 ≠ q) ∧ i = -1) ∨ ∃ (k : Nat) (h : Nat × Value), hs[k]? = some h ∧ h.1 = q ∧ i = k

set_option maxHeartbeats 4000000 in
theorem idx_any (ao : Option Addr) (tb q cap : Nat) (hs : List (Nat × Value)) (w : World) (hlen : hs.length ≤ 2000) (hq : ∃ c T, w.heap[q]? = some (.cells c T (0, 0))) (ht : w.cell? ⟨tb, 0, none⟩ = some (.pointer (some ⟨q, 0, none⟩)))
    (hc : ∀ (j : Nat) (h : Nat × Value), hs[j]? = some h → ∃ hb, ao = some ⟨hb, 0, none⟩ ∧ hb < w.heap.size ∧ w.cell? ⟨hb, j * 2, none⟩ = some (.pointer (some ⟨h.1, 0, none⟩)) ∧ w.cell? ⟨hb, j * 2 + 1, none⟩ = some h.2 ∧ ∃ c T, w.heap[h.1]? = some (.cells c T (0, 0))) :
    Calls Yba.prog 31 #[.slice ao hs.length cap, .func (.func 32) #[] #[.pointer (some ⟨tb, 0, none⟩)]] w fun e w' => ∃ i : Int, e = .returned (.int .i64 i) ∧ FoundP hs q i ∧ Below w.heap.size w w' := by
  have HC : Hid (∀ (j : Nat) (h : Nat × Value), hs[j]? = some h → ∃ hb, ao = some ⟨hb, 0, none⟩ ∧ hb < w.heap.size ∧ w.cell? ⟨hb, j * 2, none⟩ = some (.pointer (some ⟨h.1, 0, none⟩)) ∧ w.cell? ⟨hb, j * 2 + 1, none⟩ = some h.2 ∧ ∃ c T, w.heap[h.1]? = some (.cells c T (0, 0))) := hc
  have HT : Hid (w.cell? ⟨tb, 0, none⟩ = some (.pointer (some ⟨q, 0, none⟩))) := ht
  obtain ⟨cq, Tq, hq⟩ := hq
  have HQ : Hid (w.heap[q]? = some (.cells cq Tq (0, 0))) := hq
  have htl := block_lt_of_cell ht
  clear hc ht hq
  go_enter Yba.func31, Yba.ntmps31
  go_wp2
  go_loopg [5, 8] hs.length (fun gg _ s8 wr => ∃ k : Nat, k ≤ hs.length ∧ hs.length - k ≤ gg ∧ s8 = .int .i64 k ∧ Hid (Below w.heap.size w wr) ∧ Hid (∀ (j : Nat) (h : Nat × Value), j < k → hs[j]? = some h → h.1 ≠ q))
  case atStart => exact ⟨0, Nat.zero_le _, by omega, rfl, Below.refl _ _, fun j h hj => absurd hj (Nat.not_lt_zero _)⟩
  case round =>
    obtain ⟨k, hk, hgg, rfl, hB, hn⟩ := hrel
    by_cases hlt : k < hs.length
    · have hltz : (k : Int) < (hs.length : Int) := by omega
      obtain ⟨h, hkh⟩ : ∃ h, hs[k]? = some h := ⟨_, List.getElem?_eq_getElem hlt⟩
      obtain ⟨hb, rfl, hbl, c0, c1, cp, Tp, hpp⟩ := HC.out k h hkh
      have d0 : wr.cell? ⟨hb, k * 2, none⟩ = some (.pointer (some ⟨h.1, 0, none⟩)) := (hB.out.cell (p := ⟨hb, k * 2, none⟩) hbl).trans c0
      have d1 : wr.cell? ⟨hb, k * 2 + 1, none⟩ = some h.2 := (hB.out.cell (p := ⟨hb, k * 2 + 1, none⟩) hbl).trans c1
      have hC := pred_any h.1 q tb Tp Tq h.2 cp cq wr (by rw [hB.out.block _ (blk_lt hpp)]; exact hpp) (by rw [hB.out.block _ (blk_lt HQ.out)]; exact HQ.out) ((hB.out.cell (p := ⟨tb, 0, none⟩) htl).trans HT.out)
      have HK : Hid (hs[k]? = some h) := hkh
      clear hkh c0 c1 hpp
      obtain ⟨pb, nv⟩ := h
      simp only at d0 d1 hC
      go_wp2_with fail
      refine hC.mono ?_
      rintro e w2 ⟨rfl, hb2⟩
      clear hC d0 d1
      have HB2 : Hid (Below w.heap.size w w2) := hB.out.trans (hb2.mono hB.out.size)
      by_cases hpq : pb = q
      · rw [decide_eq_true hpq]
        go_wp2
        go_ret
        exact ⟨k, rfl, .inr ⟨k, _, HK.out, hpq, rfl⟩, HB2.out⟩
      · rw [decide_eq_false hpq]
        have HPQ : Hid (pb ≠ q) := hpq
        go_wp2
        go_roundg (hs.length - (k + 1))
        case measure => omega
        case rel =>
          refine ⟨k + 1, by omega, Nat.le_refl _, rfl, HB2, fun j h hj hjh => ?_⟩
          by_cases e : j = k
          · subst e
            rw [HK.out] at hjh
            cases hjh
            exact HPQ.out
          · exact hn.out j h (by omega) hjh
    · have hge : ¬ ((k : Int) < (hs.length : Int)) := by omega
      have hH : Hid (∀ (j : Nat) (h : Nat × Value), hs[j]? = some h → h.1 ≠ q) := fun j h hj => hn.out j h (by
        have := (List.getElem?_eq_some_iff.1 hj).1
        omega) hj
      go_wp2
      go_ret
      exact ⟨-1, rfl, .inl ⟨hH.out, rfl⟩, hB.out⟩
end Go.Proofs.Ybulkakzq.Hops
