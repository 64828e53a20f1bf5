/-
  THE READERS: the two predicates, slices.IndexFunc at both types, Table, Chain, holdsFilterTable, BuiltIn, the law's own comparison.
-/
import Derived.Test.YbulkalbgFmtRows
import Derived.Test.YbulkalbgFmtMem
import Derived.Lib.Builder
import Derived.Lib.SlicesS
import Derived.Deep.QuietTactic
import Derived.BigQuiet
import Derived.WalkSpells
namespace Go.Proofs.YbulkalbgFmt.Reads
open Go.RowKit Blocks Mem
set_option linter.unusedVariables false
set_option maxRecDepth 100000

theorem beq_dec (a b : ByteArray) : (a.toList == b.toList) = decide (a = b) := by
  by_cases h : a = b
  · rw [decide_eq_true h]; exact (Lib.bytes_beq_iff a b).2 h
  · rw [decide_eq_false h]; exact (Lib.bytes_beq_false_iff a b).2 h

/-- What a search by name answers. -/
def Found (L : List (Nat × ByteArray)) (x : ByteArray) (i : Int) : Prop :=
  ((∀ (j : Nat) (p : Nat × ByteArray), L[j]? = some p → p.2 ≠ x) ∧ i = -1) ∨ ∃ (k : Nat) (p : Nat × ByteArray), L[k]? = some p ∧ p.2 = x ∧ (∀ (j : Nat) (q : Nat × ByteArray), j < k → L[j]? = some q → q.2 ≠ x) ∧ i = k

theorem named_of {L : List (Nat × ByteArray)} {x : ByteArray} (k : Nat) (p : Nat × ByteArray) (h : L[k]? = some p) (hx : p.2 = x) (hn : ∀ (j : Nat) (q : Nat × ByteArray), j < k → L[j]? = some q → q.2 ≠ x) : named L x = some ⟨p.1, 0, none⟩ := by
  induction L generalizing k with
  | nil => simp at h
  | cons a L ih =>
    cases k with
    | zero =>
      simp at h
      subst h
      simp [named, hx]
    | succ k =>
      have ha : a.2 ≠ x := hn 0 a (by omega) (by simp)
      have := ih k (by simpa using h) (fun j q hj hq => hn (j + 1) q (by omega) (by simpa using hq))
      simp only [named] at this ⊢
      rw [List.find?_cons_of_neg (by simpa using ha)]
      exact this

theorem named_none {L : List (Nat × ByteArray)} {x : ByteArray} (hn : ∀ (j : Nat) (q : Nat × ByteArray), L[j]? = some q → q.2 ≠ x) : named L x = none := by
  simp only [named, Option.map_eq_none_iff, List.find?_eq_none]
  intro p hp
  obtain ⟨j, hj⟩ := List.getElem?_of_mem hp
  simpa using hn j p hj

theorem below_drewN {B : Nat} {a w : World} (h : Below B a w) (n : Nat) : Below B a (w.drewN n) := ⟨h.os, h.tape, h.output, h.size, h.block⟩

set_option maxHeartbeats 1000000 in
theorem pred_tab (t nb : Nat) (nm x : ByteArray) (w : World) (h0 : w.cell? ⟨t, 0, none⟩ = some (.string nm)) (h1 : w.cell? ⟨nb, 0, none⟩ = some (.string x)) :
    Calls Ybaf.prog 18 #[.pointer (some ⟨t, 0, none⟩), .pointer (some ⟨nb, 0, none⟩)] w fun e w' => e = .returned (.bool (decide (nm = x))) ∧ ∃ n, w' = w.drewN n := by
  go_enter Ybaf.func18, Ybaf.ntmps18
  go_wp2
  go_quiet (fail)
  go_wp2
  go_ret
  exact ⟨by rw [beq_dec]; rfl, ⟨_, rfl⟩⟩

set_option maxHeartbeats 4000000 in
theorem idx_tab (rb nb cap : Nat) (L : List (Nat × ByteArray)) (x : ByteArray) (w : World) (hlen : L.length ≤ 1000)
    (hc : ∀ (j : Nat) (p : Nat × ByteArray), L[j]? = some p → w.cell? ⟨rb, j, none⟩ = some (ptr p.1) ∧ w.cell? ⟨p.1, 0, none⟩ = some (.string p.2)) (h1 : w.cell? ⟨nb, 0, none⟩ = some (.string x)) :
    Calls Ybaf.prog 17 #[.slice (some ⟨rb, 0, none⟩) L.length cap, .func (.func 18) #[] #[.pointer (some ⟨nb, 0, none⟩)]] w fun e w' => ∃ i : Int, e = .returned (.int .i64 i) ∧ Found L x i ∧ ∃ n, w' = w.drewN n := by
  have HC : Hid (∀ (j : Nat) (p : Nat × ByteArray), L[j]? = some p → w.cell? ⟨rb, j, none⟩ = some (ptr p.1) ∧ w.cell? ⟨p.1, 0, none⟩ = some (.string p.2)) := hc
  clear hc
  go_enter Ybaf.func17, Ybaf.ntmps17
  go_wp2
  go_loopw [5, 8] (fun _ s8 wr => ∃ k : Nat, k ≤ L.length ∧ s8 = .int .i64 k ∧ Hid (∃ m, wr = w.drewN m) ∧ Hid (∀ (j : Nat) (q : Nat × ByteArray), j < k → L[j]? = some q → q.2 ≠ x)) (fun _ s8 _ => L.length - (intOf s8).toNat)
  case atStart => exact ⟨0, Nat.zero_le _, rfl, ⟨0, rfl⟩, fun j q hj => absurd hj (Nat.not_lt_zero _)⟩
  case round =>
    obtain ⟨k, hk, rfl, hw, hn⟩ := hrel
    obtain ⟨m, rfl⟩ := hw
    by_cases hlt : k < L.length
    · have hltz : (k : Int) < (L.length : Int) := by omega
      have hp : L[k]? = some L[k] := List.getElem?_eq_getElem hlt
      have hcc : w.cell? ⟨rb, k, none⟩ = some (ptr L[k].1) := (HC.out k _ hp).1
      simp only [ptr] at hcc
      have hC := pred_tab L[k].1 nb L[k].2 x (w.drewN m) (by simpa using (HC.out k _ hp).2) (by simpa using h1)
      by_cases hx : L[k].2 = x
      · rw [decide_eq_true hx] at hC
        have hH : Hid (∃ p, L[k]? = some p ∧ p.2 = x) := ⟨_, hp, hx⟩
        clear hx hp h1
        generalize L[k] = p at hcc hC
        obtain ⟨p1, p2⟩ := p
        go_wp2_with fail
        refine hC.mono ?_
        rintro e w' ⟨rfl, n, rfl⟩
        clear hC
        go_wp2
        go_ret
        obtain ⟨p, hp, hx⟩ := hH.out
        exact ⟨k, rfl, .inr ⟨k, p, hp, hx, hn.out, rfl⟩, _, rfl⟩
      · rw [decide_eq_false hx] at hC
        have hH : Hid (∀ p, L[k]? = some p → p.2 ≠ x) := fun p h => by rw [hp] at h; cases h; exact hx
        clear hx hp h1
        generalize L[k] = p at hcc hC
        obtain ⟨p1, p2⟩ := p
        go_wp2_with fail
        refine hC.mono ?_
        rintro e w' ⟨rfl, n, rfl⟩
        clear hC
        go_wp2
        exact ⟨⟨k + 1, by omega, rfl, ⟨_, rfl⟩, fun j q hj hq => by
          by_cases e : j = k
          · subst e; exact hH.out q hq
          · exact hn.out j q (by omega) hq⟩, by simp [intOf]; omega⟩
    · have hge : ¬ ((k : Int) < (L.length : Int)) := by omega
      have hH : Hid (∀ (j : Nat) (p : Nat × ByteArray), L[j]? = some p → p.2 ≠ x) := fun j p h => hn.out j p (by
        have := (List.getElem?_eq_some_iff.1 h).1
        omega) h
      go_wp2
      go_ret
      exact ⟨-1, rfl, .inl ⟨hH.out, rfl⟩, _, rfl⟩

set_option maxHeartbeats 1000000 in
theorem pred_chn (t nb : Nat) (nm x : ByteArray) (w : World) (h0 : w.cell? ⟨t, 0, none⟩ = some (.string nm)) (h1 : w.cell? ⟨nb, 0, none⟩ = some (.string x)) :
    Calls Ybaf.prog 16 #[.pointer (some ⟨t, 0, none⟩), .pointer (some ⟨nb, 0, none⟩)] w fun e w' => e = .returned (.bool (decide (nm = x))) ∧ ∃ n, w' = w.drewN n := by
  go_enter Ybaf.func16, Ybaf.ntmps16
  go_wp2
  go_quiet (fail)
  go_wp2
  go_ret
  exact ⟨by rw [beq_dec]; rfl, ⟨_, rfl⟩⟩

set_option maxHeartbeats 4000000 in
theorem idx_chn (rb nb cap : Nat) (L : List (Nat × ByteArray)) (x : ByteArray) (w : World) (hlen : L.length ≤ 1000)
    (hc : ∀ (j : Nat) (p : Nat × ByteArray), L[j]? = some p → w.cell? ⟨rb, j, none⟩ = some (ptr p.1) ∧ w.cell? ⟨p.1, 0, none⟩ = some (.string p.2)) (h1 : w.cell? ⟨nb, 0, none⟩ = some (.string x)) :
    Calls Ybaf.prog 15 #[.slice (some ⟨rb, 0, none⟩) L.length cap, .func (.func 16) #[] #[.pointer (some ⟨nb, 0, none⟩)]] w fun e w' => ∃ i : Int, e = .returned (.int .i64 i) ∧ Found L x i ∧ ∃ n, w' = w.drewN n := by
  have HC : Hid (∀ (j : Nat) (p : Nat × ByteArray), L[j]? = some p → w.cell? ⟨rb, j, none⟩ = some (ptr p.1) ∧ w.cell? ⟨p.1, 0, none⟩ = some (.string p.2)) := hc
  clear hc
  go_enter Ybaf.func15, Ybaf.ntmps15
  go_wp2
  go_loopw [5, 8] (fun _ s8 wr => ∃ k : Nat, k ≤ L.length ∧ s8 = .int .i64 k ∧ Hid (∃ m, wr = w.drewN m) ∧ Hid (∀ (j : Nat) (q : Nat × ByteArray), j < k → L[j]? = some q → q.2 ≠ x)) (fun _ s8 _ => L.length - (intOf s8).toNat)
  case atStart => exact ⟨0, Nat.zero_le _, rfl, ⟨0, rfl⟩, fun j q hj => absurd hj (Nat.not_lt_zero _)⟩
  case round =>
    obtain ⟨k, hk, rfl, hw, hn⟩ := hrel
    obtain ⟨m, rfl⟩ := hw
    by_cases hlt : k < L.length
    · have hltz : (k : Int) < (L.length : Int) := by omega
      have hp : L[k]? = some L[k] := List.getElem?_eq_getElem hlt
      have hcc : w.cell? ⟨rb, k, none⟩ = some (ptr L[k].1) := (HC.out k _ hp).1
      simp only [ptr] at hcc
      have hC := pred_chn L[k].1 nb L[k].2 x (w.drewN m) (by simpa using (HC.out k _ hp).2) (by simpa using h1)
      by_cases hx : L[k].2 = x
      · rw [decide_eq_true hx] at hC
        have hH : Hid (∃ p, L[k]? = some p ∧ p.2 = x) := ⟨_, hp, hx⟩
        clear hx hp h1
        generalize L[k] = p at hcc hC
        obtain ⟨p1, p2⟩ := p
        go_wp2_with fail
        refine hC.mono ?_
        rintro e w' ⟨rfl, n, rfl⟩
        clear hC
        go_wp2
        go_ret
        obtain ⟨p, hp, hx⟩ := hH.out
        exact ⟨k, rfl, .inr ⟨k, p, hp, hx, hn.out, rfl⟩, _, rfl⟩
      · rw [decide_eq_false hx] at hC
        have hH : Hid (∀ p, L[k]? = some p → p.2 ≠ x) := fun p h => by rw [hp] at h; cases h; exact hx
        clear hx hp h1
        generalize L[k] = p at hcc hC
        obtain ⟨p1, p2⟩ := p
        go_wp2_with fail
        refine hC.mono ?_
        rintro e w' ⟨rfl, n, rfl⟩
        clear hC
        go_wp2
        exact ⟨⟨k + 1, by omega, rfl, ⟨_, rfl⟩, fun j q hj hq => by
          by_cases e : j = k
          · subst e; exact hH.out q hq
          · exact hn.out j q (by omega) hq⟩, by simp [intOf]; omega⟩
    · have hge : ¬ ((k : Int) < (L.length : Int)) := by omega
      have hH : Hid (∀ (j : Nat) (p : Nat × ByteArray), L[j]? = some p → p.2 ≠ x) := fun j p h => hn.out j p (by
        have := (List.getElem?_eq_some_iff.1 h).1
        omega) h
      go_wp2
      go_ret
      exact ⟨-1, rfl, .inl ⟨hH.out, rfl⟩, _, rfl⟩

set_option maxHeartbeats 4000000 in
theorem find_tab (r rb cap : Nat) (L : List (Nat × ByteArray)) (x : ByteArray) (w : World) (hlen : L.length ≤ 1000) (h0 : w.cell? ⟨r, 0, none⟩ = some (.slice (some ⟨rb, 0, none⟩) L.length cap))
    (hc : ∀ (j : Nat) (p : Nat × ByteArray), L[j]? = some p → w.cell? ⟨rb, j, none⟩ = some (ptr p.1) ∧ w.cell? ⟨p.1, 0, none⟩ = some (.string p.2)) :
    Calls Ybaf.prog 10 #[ptr r, .string x] w fun e w' => e = .returned (.pointer (named L x)) ∧ Below w.heap.size w w' := by
  have HC : Hid (∀ (j : Nat) (p : Nat × ByteArray), L[j]? = some p → w.cell? ⟨rb, j, none⟩ = some (ptr p.1) ∧ w.cell? ⟨p.1, 0, none⟩ = some (.string p.2)) := hc
  have hC := idx_tab rb w.heap.size cap L x (w.alloc (.cells #[.string x] 9 (0, 0))) hlen (fun j p h => ⟨Lib.cell?_alloc_some _ (hc j p h).1, Lib.cell?_alloc_some _ (hc j p h).2⟩) (by simp)
  have h0' := Lib.cell?_alloc_some (.cells #[.string x] 9 (0, 0)) h0
  clear hc h0
  show Calls Ybaf.prog 10 #[.pointer (some ⟨r, 0, none⟩), .string x] w _
  go_enter Ybaf.func10, Ybaf.ntmps10
  go_wp2_with fail
  refine hC.mono ?_
  rintro e w1 ⟨i, rfl, hF, n, rfl⟩
  clear hC
  rcases hF with ⟨hn, rfl⟩ | ⟨k, p, hk, hx, hn, rfl⟩
  · have hH : Hid (named L x = none) := named_none hn
    clear hn
    go_wp2
    go_ret
    exact ⟨by rw [hH.out]; rfl, below_drewN ((Below.refl _ w).alloc (Nat.le_refl _) _) _⟩
  · have hH : Hid (named L x = some ⟨p.1, 0, none⟩) := named_of k p hk hx hn
    have hcc : (w.alloc (.cells #[.string x] 9 (0, 0))).cell? ⟨rb, k, none⟩ = some (.pointer (some ⟨p.1, 0, none⟩)) := Lib.cell?_alloc_some _ (HC.out k p hk).1
    have hlt : k < L.length := (List.getElem?_eq_some_iff.1 hk).1
    have hltz : (k : Int) < (L.length : Int) := by omega
    clear hn hk hx
    go_wp2
    go_ret
    exact ⟨by rw [hH.out]; rfl, below_drewN ((Below.refl _ w).alloc (Nat.le_refl _) _) _⟩

set_option maxHeartbeats 4000000 in
theorem find_chn (r rb cap : Nat) (L : List (Nat × ByteArray)) (x : ByteArray) (w : World) (hlen : L.length ≤ 1000) (h0 : w.cell? ⟨r, 2, none⟩ = some (.slice (some ⟨rb, 0, none⟩) L.length cap))
    (hc : ∀ (j : Nat) (p : Nat × ByteArray), L[j]? = some p → w.cell? ⟨rb, j, none⟩ = some (ptr p.1) ∧ w.cell? ⟨p.1, 0, none⟩ = some (.string p.2)) :
    Calls Ybaf.prog 9 #[ptr r, .string x] w fun e w' => e = .returned (.pointer (named L x)) ∧ Below w.heap.size w w' := by
  have HC : Hid (∀ (j : Nat) (p : Nat × ByteArray), L[j]? = some p → w.cell? ⟨rb, j, none⟩ = some (ptr p.1) ∧ w.cell? ⟨p.1, 0, none⟩ = some (.string p.2)) := hc
  have hC := idx_chn rb w.heap.size cap L x (w.alloc (.cells #[.string x] 9 (0, 0))) hlen (fun j p h => ⟨Lib.cell?_alloc_some _ (hc j p h).1, Lib.cell?_alloc_some _ (hc j p h).2⟩) (by simp)
  have h0' := Lib.cell?_alloc_some (.cells #[.string x] 9 (0, 0)) h0
  clear hc h0
  show Calls Ybaf.prog 9 #[.pointer (some ⟨r, 0, none⟩), .string x] w _
  go_enter Ybaf.func9, Ybaf.ntmps9
  go_wp2_with fail
  refine hC.mono ?_
  rintro e w1 ⟨i, rfl, hF, n, rfl⟩
  clear hC
  rcases hF with ⟨hn, rfl⟩ | ⟨k, p, hk, hx, hn, rfl⟩
  · have hH : Hid (named L x = none) := named_none hn
    clear hn
    go_wp2
    go_ret
    exact ⟨by rw [hH.out]; rfl, below_drewN ((Below.refl _ w).alloc (Nat.le_refl _) _) _⟩
  · have hH : Hid (named L x = some ⟨p.1, 0, none⟩) := named_of k p hk hx hn
    have hcc : (w.alloc (.cells #[.string x] 9 (0, 0))).cell? ⟨rb, k, none⟩ = some (.pointer (some ⟨p.1, 0, none⟩)) := Lib.cell?_alloc_some _ (HC.out k p hk).1
    have hlt : k < L.length := (List.getElem?_eq_some_iff.1 hk).1
    have hltz : (k : Int) < (L.length : Int) := by omega
    clear hn hk hx
    go_wp2
    go_ret
    exact ⟨by rw [hH.out]; rfl, below_drewN ((Below.refl _ w).alloc (Nat.le_refl _) _) _⟩

theorem info28 : (Ybaf.prog.info? 28).isSome = true := by kernel_rfl

set_option maxHeartbeats 1000000 in
theorem builtIn_any (c : Nat) (pol : ByteArray) (w : World) (h : w.cell? ⟨c, 2, none⟩ = some (.string pol)) :
    Calls Ybaf.prog 12 #[.pointer (some ⟨c, 0, none⟩)] w fun e w' => e = .returned (.bool (!pol.toList.isEmpty)) ∧ w' = w := by
  go_enter Ybaf.func12, Ybaf.ntmps12
  go_wp2
  go_ret
  exact ⟨rfl, rfl⟩

set_option maxHeartbeats 1000000 in
theorem holds_any (r fb : Nat) (line : Int) (w : World) (hT : Calls Ybaf.prog 10 #[ptr r, .string sFIL] w fun e w' => e = .returned (ptr fb) ∧ Below w.heap.size w w') (h : w.cell? ⟨fb, 1, none⟩ = some (.int .i64 line)) (hb : fb < w.heap.size) :
    Calls Ybaf.prog 11 #[.pointer (some ⟨r, 0, none⟩)] w fun e w' => e = .returned (.bool (decide (0 < line))) ∧ Below w.heap.size w w' := by
  go_enter Ybaf.func11, Ybaf.ntmps11
  go_wp2_with fail
  refine hT.mono ?_
  rintro e w1 ⟨rfl, hB⟩
  have h1 : w1.cell? ⟨fb, 1, none⟩ = some (.int .i64 line) := (hB.cell (p := ⟨fb, 1, none⟩) hb).trans h
  clear hT h
  simp only [ptr]
  go_wp2
  all_goals (go_ret; exact ⟨by simp_all, hB⟩)

set_option maxHeartbeats 1000000 in
theorem same_nil (ao bo : Option Addr) (ca cb : Nat) (w : World) : Calls Ybaf.prog 5 #[.slice ao 0 ca, .slice bo 0 cb] w fun e w' => e = .returned (.bool true) ∧ w' = w := by
  go_enter Ybaf.func5, Ybaf.ntmps5
  go_wp2
  go_loopw [5, 13] (fun _ s13 wr => s13 = .int .i64 0 ∧ wr = w) (fun _ s13 _ => 0)
  case atStart => exact ⟨rfl, rfl⟩
  case round =>
    obtain ⟨rfl, rfl⟩ := hrel
    go_wp2
    go_ret
    exact ⟨rfl, rfl⟩

set_option maxHeartbeats 4000000 in
theorem same_row (ba bb n ca cb : Nat) (w : World) (hn : n ≤ 1000) (hc : ∀ j, j < n → ∃ p : Addr, w.cell? ⟨ba, j, none⟩ = some (.pointer (some p)) ∧ w.cell? ⟨bb, j, none⟩ = some (.pointer (some p))) :
    Calls Ybaf.prog 5 #[.slice (some ⟨ba, 0, none⟩) n ca, .slice (some ⟨bb, 0, none⟩) n cb] w fun e w' => e = .returned (.bool true) ∧ ∃ m, w' = w.drewN m := by
  have HC : Hid (∀ j, j < n → ∃ p : Addr, w.cell? ⟨ba, j, none⟩ = some (.pointer (some p)) ∧ w.cell? ⟨bb, j, none⟩ = some (.pointer (some p))) := hc
  clear hc
  obtain ⟨jj, hj⟩ := Option.isSome_iff_exists.1 info28
  have hneq : ∀ (a : Addr) (w : World), (binOp .neq 25 (.pointer (some a)) (.pointer (some a))).run Ybaf.prog w = .ok (.bool false) w := fun a w => Lib.run_neq_ptr_same w a Ybaf.underlying25 hj
  clear hj
  go_enter Ybaf.func5, Ybaf.ntmps5
  go_wp2
  go_loopw [5, 13] (fun _ s13 wr => ∃ k : Nat, k ≤ n ∧ s13 = .int .i64 k ∧ Hid (∃ m, wr = w.drewN m)) (fun _ s13 _ => n - (intOf s13).toNat)
  case atStart => exact ⟨0, Nat.zero_le _, rfl, 0, rfl⟩
  case round =>
    obtain ⟨k, hk, rfl, hw⟩ := hrel
    obtain ⟨m, rfl⟩ := hw
    by_cases hlt : k < n
    · have hltz : (k : Int) < (n : Int) := by omega
      obtain ⟨p, h1, h2⟩ := HC.out k hlt
      go_wp2
      go_quiet (fail)
      go_wp2
      exact ⟨⟨k + 1, by omega, rfl, _, rfl⟩, by simp [intOf]; omega⟩
    · have hge : ¬ ((k : Int) < (n : Int)) := by omega
      go_wp2
      go_ret
      exact ⟨rfl, _, rfl⟩

end Go.Proofs.YbulkalbgFmt.Reads
