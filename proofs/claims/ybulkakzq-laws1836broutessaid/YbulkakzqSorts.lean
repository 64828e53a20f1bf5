/-
  PLAIN LAWS of the sorting into hops. No Go in sight.
-/
import Derived.Test.YbulkakzqSp
namespace Go.Proofs.Ybulkakzq.Sorts
open Go.RowKit Fam Sp
set_option linter.unusedVariables false

def stH (r : ByteArray → Option Nat) (H : List (Nat × List ByteArray)) (x : ByteArray) : List (Nat × List ByteArray) := match r x with
  | some p => addH H p x
  | none => H
def hopsL (r : ByteArray → Option Nat) (l : List ByteArray) : List (Nat × List ByteArray) := l.foldl (stH r) []
def upsL (r : ByteArray → Option Nat) (ub : Bool) (l : List ByteArray) : List ByteArray := l.filter fun x => ub && (r x).isNone

theorem snocInd {α : Type} {P : List α → Prop} (nil : P []) (append_singleton : ∀ l x, P l → P (l ++ [x])) (l : List α) : P l := by
  have h : ∀ m : List α, P m.reverse := fun m => by
    induction m with
    | nil => simpa using nil
    | cons x m ih => simpa using append_singleton m.reverse x ih
  simpa using h l.reverse

theorem take_snoc {l : List ByteArray} {k : Nat} {x : ByteArray} (h : l[k]? = some x) : l.take (k + 1) = l.take k ++ [x] := by
  rw [List.take_add_one, h]; rfl

section
variable {r : ByteArray → Option Nat}
theorem hopsL_snoc (l : List ByteArray) (x : ByteArray) : hopsL r (l ++ [x]) = stH r (hopsL r l) x := by simp [hopsL]
theorem hops_none {l : List ByteArray} {k : Nat} {x : ByteArray} (h : l[k]? = some x) (hx : r x = none) : hopsL r (l.take (k + 1)) = hopsL r (l.take k) := by
  rw [take_snoc h, hopsL_snoc]; simp [stH, hx]
theorem hops_some {l : List ByteArray} {k p : Nat} {x : ByteArray} (h : l[k]? = some x) (hx : r x = some p) : hopsL r (l.take (k + 1)) = addH (hopsL r (l.take k)) p x := by
  rw [take_snoc h, hopsL_snoc]; simp [stH, hx]
theorem ups_none {l : List ByteArray} {k : Nat} {x : ByteArray} (h : l[k]? = some x) (hx : r x = none) : upsL r true (l.take (k + 1)) = upsL r true (l.take k) ++ [x] := by
  rw [take_snoc h]; simp [upsL, hx]
theorem ups_some {l : List ByteArray} {k p : Nat} {x : ByteArray} (ub : Bool) (h : l[k]? = some x) (hx : r x = some p) : upsL r ub (l.take (k + 1)) = upsL r ub (l.take k) := by
  rw [take_snoc h]; simp [upsL, hx]
theorem ups_false (l : List ByteArray) : upsL r false l = [] := by simp [upsL]
theorem ups_len (ub : Bool) (l : List ByteArray) : (upsL r ub l).length ≤ l.length := List.length_filter_le _ _
theorem ups_mem (ub : Bool) (l : List ByteArray) {x : ByteArray} (h : x ∈ upsL r ub l) : x ∈ l := (List.mem_filter.1 h).1

theorem addH_mem {H : List (Nat × List ByteArray)} {p : Nat} {x : ByteArray} {g : Nat × List ByteArray} (h : g ∈ addH H p x) : g ∈ H ∨ (g.1 = p ∧ ∃ l, g.2 = l ++ [x] ∧ (l = [] ∨ (p, l) ∈ H)) := by
  induction H with
  | nil => simp [addH] at h; subst h; exact .inr ⟨rfl, [], rfl, .inl rfl⟩
  | cons a t ih =>
    simp only [addH] at h
    split at h
    · next e =>
      simp only [List.mem_cons] at h
      rcases h with rfl | h
      · exact .inr ⟨rfl, a.2, rfl, .inr (by rw [← e]; exact List.mem_cons_self)⟩
      · exact .inl (by simp [h])
    · simp only [List.mem_cons] at h
      rcases h with rfl | h
      · exact .inl (by simp)
      · rcases ih h with h1 | ⟨h1, l, h2, h3⟩
        · exact .inl (by simp [h1])
        · exact .inr ⟨h1, l, h2, h3.imp id (by intro h; simp [h])⟩

/-- What a hop holds. -/
theorem hopsL_in (l : List ByteArray) : (∀ g ∈ hopsL r l, g.2 ≠ [] ∧ g.2.length ≤ l.length ∧ ∀ x ∈ g.2, x ∈ l ∧ r x = some g.1) ∧ ((hopsL r l).map (·.1)).Nodup := by
  induction l using snocInd with
  | nil => simp [hopsL]
  | append_singleton l x ih =>
    rw [hopsL_snoc]
    cases hx : r x with
    | none =>
      simp only [stH, hx]
      refine ⟨fun g hg => ?_, ih.2⟩
      obtain ⟨h1, h2, h3⟩ := ih.1 g hg
      exact ⟨h1, by simp; omega, fun y hy => ⟨by simp [(h3 y hy).1], (h3 y hy).2⟩⟩
    | some p =>
      simp only [stH, hx]
      refine ⟨fun g hg => ?_, addH_keys ih.2 p x⟩
      rcases addH_mem hg with h | ⟨h1, q, h2, h3⟩
      · obtain ⟨h1, h2, h3⟩ := ih.1 g h
        exact ⟨h1, by simp; omega, fun y hy => ⟨by simp [(h3 y hy).1], (h3 y hy).2⟩⟩
      · rcases h3 with rfl | h3
        · refine ⟨by simp [h2], by simp [h2], fun y hy => ?_⟩
          simp [h2] at hy
          subst hy
          exact ⟨by simp, by rw [hx, h1]⟩
        · obtain ⟨k1, k2, k3⟩ := ih.1 _ h3
          refine ⟨by simp [h2], by simp at k2; simp [h2]; omega, fun y hy => ?_⟩
          rw [h2] at hy
          simp at hy
          rcases hy with hy | rfl
          · exact ⟨by simp [(k3 y hy).1], by rw [h1]; exact (k3 y hy).2⟩
          · exact ⟨by simp, by rw [hx, h1]⟩

/-- No more hops than names. -/
theorem addH_len (H : List (Nat × List ByteArray)) (p : Nat) (x : ByteArray) : (addH H p x).length ≤ H.length + 1 := by
  induction H with
  | nil => simp [addH]
  | cons a t ih => simp only [addH]; split <;> simp <;> omega
theorem hopsL_len (l : List ByteArray) : (hopsL r l).length ≤ l.length := by
  induction l using snocInd with
  | nil => simp [hopsL]
  | append_singleton l x ih =>
    rw [hopsL_snoc]
    simp only [stH, List.length_append, List.length_singleton]
    split
    · have := addH_len (hopsL r l) ‹_› x; omega
    · omega

/-- A renaming of the places. -/
theorem addH_map (P : Nat → Nat) {H : List (Nat × List ByteArray)} {p : Nat} (x : ByteArray) (hP : ∀ g ∈ H, P g.1 = P p → g.1 = p) : addH (H.map fun g => (P g.1, g.2)) (P p) x = (addH H p x).map fun g => (P g.1, g.2) := by
  induction H with
  | nil => rfl
  | cons a t ih =>
    simp only [List.map_cons, addH]
    by_cases e : a.1 = p
    · simp [e]
    · rw [if_neg e, if_neg (fun h => e (hP a (by simp) h)), ih (fun g hg => hP g (by simp [hg]))]
      rfl
theorem hopsL_map (P : Nat → Nat) (l : List ByteArray) (hP : ∀ x ∈ l, ∀ y ∈ l, ∀ a b, r x = some a → r y = some b → P a = P b → a = b) : hopsL (fun x => (r x).map P) l = (hopsL r l).map fun g => (P g.1, g.2) := by
  induction l using snocInd with
  | nil => rfl
  | append_singleton l x ih =>
    rw [hopsL_snoc, hopsL_snoc, ih (fun y hy z hz => hP y (by simp [hy]) z (by simp [hz]))]
    cases hx : r x with
    | none => simp [stH, hx]
    | some p =>
      simp only [stH, hx, Option.map_some]
      refine addH_map P x (fun g hg e => ?_)
      obtain ⟨h1, _, h3⟩ := (hopsL_in (r := r) l).1 g hg
      obtain ⟨y, hy⟩ := List.exists_mem_of_ne_nil _ h1
      exact hP y (by simp [(h3 y hy).1]) x (by simp) _ _ (h3 y hy).2 hx e
theorem upsL_map (P : Nat → Nat) (ub : Bool) (l : List ByteArray) : upsL (fun x => (r x).map P) ub l = upsL r ub l := by simp [upsL]
end

/-! ### On the state's list -/
theorem hopsT_new {T : List T3} {p : Nat} {x : ByteArray} {v : Value} (h : ∀ t ∈ T, t.1 ≠ p) : hopsT ((T ++ [(p, Value.slice none 0 0, [])]).set T.length (p, v, [] ++ [x])) = addH (hopsT T) p x := by
  rw [addH_new (fun g hg => by
    obtain ⟨t, ht, rfl⟩ := List.mem_map.1 hg
    exact h t ht), hopsT, hopsT, List.set_append_right _ _ (by omega)]
  simp
theorem hopsT_old {T : List T3} (hn : ((hopsT T).map (·.1)).Nodup) {k : Nat} {t : T3} {x : ByteArray} {v : Value} (h : T[k]? = some t) : hopsT (T.set k (t.1, v, t.2.2 ++ [x])) = addH (hopsT T) t.1 x := by
  rw [addH_old hn (k := k) (l := t.2.2) (by simp [hopsT, h])]
  simp [hopsT, List.map_set]
end Go.Proofs.Ybulkakzq.Sorts
