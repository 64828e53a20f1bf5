/-
  A FAMILY of slices of strings that grow beside one another. The hops as a plain list.
-/
import Derived.Test.YbulkakzqHops
namespace Go.Proofs.Ybulkakzq.Fam
open Go.RowKit Blocks Box
set_option linter.unusedVariables false

/-- Each owns its strings; no two lie in one row. -/
structure Fam (w : World) (B : Nat) (fs : List (Value × List ByteArray)) : Prop where
  own : ∀ (k : Nat) (f : Value × List ByteArray), fs[k]? = some f → w.ownsRow B 9 1 f.1 f.2.length (f.2.map Value.string)
  apart : ∀ (k k' : Nat) (f f' : Value × List ByteArray), k ≠ k' → fs[k]? = some f → fs[k']? = some f' → f.1.ownBlock = none ∨ f.1.ownBlock ≠ f'.1.ownBlock

section
variable {w w' : World} {B : Nat} {fs : List (Value × List ByteArray)}

theorem Fam.nil (w : World) (B : Nat) : Fam w B [] := ⟨fun k f h => by simp at h, fun k k' f f' _ h => by simp at h⟩

theorem Fam.carry (h : Fam w B fs) (hk : ∀ (k : Nat) (f : Value × List ByteArray), fs[k]? = some f → w'.ownsRow B 9 1 f.1 f.2.length (f.2.map Value.string)) : Fam w' B fs := ⟨hk, h.apart⟩
theorem Fam.alloc (h : Fam w B fs) (o : Obj) : Fam (w.alloc o) B fs := h.carry fun k f hf => (h.own k f hf).alloc o
theorem Fam.drewN (h : Fam w B fs) (m : Nat) : Fam (w.drewN m) B fs := h.carry fun k f hf => h.own k f hf
theorem Fam.below (h : Fam w B fs) (hb : Below w.heap.size w w') : Fam w' B fs := h.carry fun k f hf => (h.own k f hf).kept (row := none) ⟨hb.os, hb.tape, hb.output, hb.size, fun k hk _ => hb.block k hk⟩ (by cases f.1.ownBlock <;> simp)
/-- A row of another type grows. -/
theorem Fam.other (h : Fam w B fs) {B' e z m : Nat} {u : Value} {ys : List Value} (hu : w.ownsRow B' e z u m ys) (he : 9 ≠ e) (hg : w.grownBy w' u.ownBlock) : Fam w' B fs := h.carry fun k f hf => (h.own k f hf).kept hg (own_ne (h.own k f hf) hu he)
/-- A store into a block of another type, or none of theirs. -/
theorem Fam.set (h : Fam w B fs) {a : Addr} (ha : ∀ (k : Nat) (f : Value × List ByteArray), fs[k]? = some f → f.1.ownBlock ≠ some a.block) (v : Value) : Fam (w.setCell a v) B fs := h.carry fun k f hf => ownsRow_setCell_other (h.own k f hf) (ha k f hf) v
theorem Fam.type (h : Fam w B fs) {b T : Nat} {c : Array Value} (hb : w.heap[b]? = some (.cells c T (0, 0))) (hT : T ≠ 9) (k : Nat) (f : Value × List ByteArray) (hf : fs[k]? = some f) : f.1.ownBlock ≠ some b := by
  intro e
  rcases (h.own k f hf).2 with ⟨e1, _⟩ | ⟨g, cap, cur, e1, _, hg, _⟩
  · rw [e1] at e; simp [Value.ownBlock] at e
  · rw [e1] at e
    simp [Value.ownBlock] at e
    subst e
    rw [hb] at hg
    simp at hg
    exact hT hg.2

theorem Fam.snoc (h : Fam w B fs) : Fam w B (fs ++ [(.slice none 0 0, [])]) := by
  have hlast : ∀ (k : Nat) (f : Value × List ByteArray), (fs ++ [(Value.slice none 0 0, ([] : List ByteArray))])[k]? = some f → fs[k]? = some f ∨ f = (.slice none 0 0, []) := by
    intro k f hf
    by_cases e : k < fs.length
    · rw [List.getElem?_append_left e] at hf; exact .inl hf
    · rw [List.getElem?_append_right (by omega)] at hf
      have h0 : k - fs.length = 0 := by have := (List.getElem?_eq_some_iff.1 hf).1; simp at this; omega
      rw [h0] at hf
      simp at hf
      exact .inr hf.symm
  refine ⟨fun k f hf => ?_, fun k k' f f' hne hf hf' => ?_⟩
  · rcases hlast k f hf with h1 | rfl
    · exact h.own k f h1
    · exact World.ownsRow_nil _ _ _ _
  · rcases hlast k f hf with h1 | rfl
    · rcases hlast k' f' hf' with h2 | rfl
      · exact h.apart k k' f f' hne h1 h2
      · cases hb : f.1.ownBlock with
        | none => exact .inl rfl
        | some q => exact .inr (by simp [Value.ownBlock])
    · exact .inl rfl

/-- One of them grows. -/
theorem Fam.grow (h : Fam w B fs) {k : Nat} {f : Value × List ByteArray} (hf : fs[k]? = some f) {v' : Value} {x : ByteArray} (ho : w'.ownsRow B 9 1 v' (f.2.length + 1) (f.2.map Value.string ++ [.string x])) (hg : w.grownBy w' f.1.ownBlock) (hat : v'.ownBlock = f.1.ownBlock ∨ v'.ownBlock = some w.heap.size) :
    Fam w' B (fs.set k (v', f.2 ++ [x])) := by
  have hkl : k < fs.length := (List.getElem?_eq_some_iff.1 hf).1
  have hcase : ∀ (j : Nat) (f' : Value × List ByteArray), (fs.set k (v', f.2 ++ [x]))[j]? = some f' → (j = k ∧ f' = (v', f.2 ++ [x])) ∨ (j ≠ k ∧ fs[j]? = some f') := by
    intro j f' hj
    by_cases e : j = k
    · subst e; rw [List.getElem?_set_self hkl] at hj; exact .inl ⟨rfl, (Option.some.inj hj).symm⟩
    · rw [List.getElem?_set_ne (Ne.symm e)] at hj; exact .inr ⟨e, hj⟩
  have hne : ∀ (j : Nat) (f' : Value × List ByteArray), j ≠ k → fs[j]? = some f' → ∀ q, v'.ownBlock = some q → f'.1.ownBlock ≠ some q := by
    intro j f' hj hf' q hq e
    rcases hat with hat | hat
    · rcases h.apart j k f' f hj hf' hf with h1 | h1
      · rw [h1] at e; cases e
      · exact h1 (by rw [e, ← hat, hq])
    · rw [hat] at hq
      have := ((h.own j f' hf').lt q e).2
      simp at hq
      omega
  refine ⟨fun j f' hj => ?_, fun j j' f1 f2 hjj h1 h2 => ?_⟩
  · rcases hcase j f' hj with ⟨rfl, rfl⟩ | ⟨hjk, hf'⟩
    · simpa using ho
    · exact (h.own j f' hf').kept hg (h.apart j k f' f hjk hf' hf)
  · rcases hcase j f1 h1 with ⟨rfl, rfl⟩ | ⟨hjk, hf1⟩
    · rcases hcase j' f2 h2 with ⟨rfl, rfl⟩ | ⟨hjk', hf2⟩
      · exact absurd rfl hjj
      · cases hq : v'.ownBlock with
        | none => exact .inl rfl
        | some q => right; exact fun e => hne j' f2 hjk' hf2 q hq e.symm
    · rcases hcase j' f2 h2 with ⟨rfl, rfl⟩ | ⟨hjk', hf2⟩
      · cases hq : f1.1.ownBlock with
        | none => exact .inl rfl
        | some q => right; intro e; exact hne j f1 hjk hf1 q e.symm hq
      · exact h.apart j j' f1 f2 hjj hf1 hf2
end

/-! ### The plain hops -/
def addH : List (Nat × List ByteArray) → Nat → ByteArray → List (Nat × List ByteArray)
  | [], p, x => [(p, [x])]
  | h :: t, p, x => if h.1 = p then (p, h.2 ++ [x]) :: t else h :: addH t p x

theorem addH_new {H : List (Nat × List ByteArray)} {p : Nat} {x : ByteArray} (h : ∀ g ∈ H, g.1 ≠ p) : addH H p x = H ++ [(p, [x])] := by
  induction H with
  | nil => rfl
  | cons g t ih => simp only [addH, if_neg (h g (by simp)), ih (fun q hq => h q (by simp [hq]))]; rfl

theorem addH_old {H : List (Nat × List ByteArray)} (hn : (H.map (·.1)).Nodup) {p k : Nat} {l : List ByteArray} {x : ByteArray} (h : H[k]? = some (p, l)) : addH H p x = H.set k (p, l ++ [x]) := by
  induction H generalizing k with
  | nil => simp at h
  | cons g t ih =>
    rw [List.map_cons, List.nodup_cons] at hn
    cases k with
    | zero => simp at h; subst h; simp [addH]
    | succ k =>
      have h' : t[k]? = some (p, l) := by simpa using h
      have hg : g.1 ≠ p := fun e => hn.1 (by rw [e]; exact List.mem_map.2 ⟨_, List.mem_of_getElem? h', rfl⟩)
      simp only [addH, if_neg hg, ih hn.2 h', List.set_cons_succ]

theorem addH_keys {H : List (Nat × List ByteArray)} (hn : (H.map (·.1)).Nodup) (p : Nat) (x : ByteArray) : ((addH H p x).map (·.1)).Nodup := by
  by_cases h : ∀ g ∈ H, g.1 ≠ p
  · rw [addH_new h, List.map_append, List.nodup_append]
    refine ⟨hn, by simp, fun a ha b hb e => ?_⟩
    simp at hb
    obtain ⟨g, hg, rfl⟩ := List.mem_map.1 ha
    exact h g hg (e.trans hb)
  · have ⟨g, hg, hgp⟩ : ∃ g ∈ H, g.1 = p := by
      rcases Classical.em (∃ g ∈ H, g.1 = p) with h1 | h1
      · exact h1
      · exact absurd (fun g hg e => h1 ⟨g, hg, e⟩) h
    obtain ⟨k, hk⟩ := List.getElem?_of_mem hg
    obtain ⟨p', l⟩ := g
    simp at hgp
    subst hgp
    rw [addH_old hn hk, List.map_set]
    have hkl : k < H.length := (List.getElem?_eq_some_iff.1 hk).1
    have : (H.map (·.1)).set k p' = H.map (·.1) := by
      apply List.ext_getElem?
      intro j
      by_cases e : j = k
      · subst e; rw [List.getElem?_set_self (by simpa using hkl), List.getElem?_map, hk]; rfl
      · rw [List.getElem?_set_ne (Ne.symm e)]
    rw [this]
    exact hn
end Go.Proofs.Ybulkakzq.Fam
