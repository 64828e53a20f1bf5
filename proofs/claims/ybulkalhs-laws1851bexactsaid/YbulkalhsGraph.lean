/-
  THE PLAIN LAW of cycles: a graph in which each node leads to at most one node; the walk that marks; what is found. No Go in sight.
-/
import Derived.Test.YbulkalhsRows
namespace Go.Proofs.Ybulkalhs.Graph
set_option linter.unusedVariables false

/-- k steps on. -/
def it (N : Nat → Option Nat) : Nat → Nat → Option Nat
  | 0, i => some i
  | k + 1, i => (it N k i).bind N

/-- A node that comes back to itself. -/
def OnC (N : Nat → Option Nat) (v : Nat) : Prop := ∃ k, 0 < k ∧ it N k v = some v

section
variable {N : Nat → Option Nat}

theorem it_add (a b i : Nat) : it N (a + b) i = (it N a i).bind (it N b) := by
  induction b with
  | zero => show it N a i = (it N a i).bind (fun x => some x); cases it N a i <;> rfl
  | succ b ih =>
    show (it N (a + b) i).bind N = _
    rw [ih]
    cases it N a i <;> rfl

theorem it_add_some {a b i x : Nat} (h : it N a i = some x) : it N (a + b) i = it N b x := by rw [it_add, h]; rfl

theorem it_mul {k v : Nat} (h : it N k v = some v) (m : Nat) : it N (k * m) v = some v := by
  induction m with
  | zero => rfl
  | succ m ih => rw [Nat.mul_succ, it_add_some ih, h]

theorem OnC.goes {v : Nat} (h : OnC N v) (m : Nat) : ∃ x, it N m v = some x := by
  obtain ⟨k, hk, hv⟩ := h
  cases hx : it N m v with
  | some x => exact ⟨x, rfl⟩
  | none =>
    have hle : m ≤ k * m := Nat.le_mul_of_pos_left m hk
    have := it_mul hv m
    rw [show k * m = m + (k * m - m) by omega, it_add, hx] at this
    cases this

/-- From wherever it goes it comes back. -/
theorem OnC.back {v x m : Nat} (h : OnC N v) (hx : it N m v = some x) : ∃ t, it N t x = some v := by
  obtain ⟨k, hk, hv⟩ := h
  have hle : m ≤ k * m := Nat.le_mul_of_pos_left m hk
  have := it_mul hv m
  rw [show k * m = m + (k * m - m) by omega, it_add_some hx] at this
  exact ⟨_, this⟩

theorem it_closed {S : Nat → Prop} (hS : ∀ x y, S x → N x = some y → S y) {x y k : Nat} (hx : S x) (h : it N k x = some y) : S y := by
  induction k generalizing y with
  | zero => cases h; exact hx
  | succ k ih =>
    simp only [it] at h
    cases hk : it N k x with
    | none => rw [hk] at h; cases h
    | some z => rw [hk] at h; exact hS z y (ih hk) h

theorem OnC.closed {S : Nat → Prop} (hS : ∀ x y, S x → N x = some y → S y) {v x m : Nat} (h : OnC N v) (hx : it N m v = some x) (hs : S x) : S v := by
  obtain ⟨t, ht⟩ := h.back hx
  exact it_closed hS hs ht

theorem it_lt {n : Nat} (hN : ∀ x y, N x = some y → y < n) {s k y : Nat} (hs : s < n) (h : it N k s = some y) : y < n :=
  it_closed (S := fun x => x < n) (fun x y _ h => hN x y h) hs h

/-! ### A list that is a cycle -/
def IsCyc (N : Nat → Option Nat) (c : List Nat) : Prop := c ≠ [] ∧ ∀ j, j < c.length → N (c.getD j 0) = some (c.getD ((j + 1) % c.length) 0)

theorem getD_mem {c : List Nat} {j : Nat} (h : j < c.length) : c.getD j 0 ∈ c := by
  rw [List.getD_eq_getElem?_getD, List.getElem?_eq_getElem h]
  exact List.getElem_mem h

theorem mem_getD {c : List Nat} {x : Nat} (h : x ∈ c) : ∃ j, j < c.length ∧ c.getD j 0 = x := by
  obtain ⟨j, hj, e⟩ := List.getElem_of_mem h
  exact ⟨j, hj, by rw [List.getD_eq_getElem?_getD, List.getElem?_eq_getElem hj]; exact e⟩

theorem IsCyc.pos {c : List Nat} (h : IsCyc N c) : 0 < c.length := List.length_pos_iff.2 h.1

theorem IsCyc.it {c : List Nat} (h : IsCyc N c) {j : Nat} (hj : j < c.length) (m : Nat) : it N m (c.getD j 0) = some (c.getD ((j + m) % c.length) 0) := by
  induction m with
  | zero => simp [Graph.it, Nat.mod_eq_of_lt hj]
  | succ m ih =>
    show (Graph.it N m _).bind N = _
    rw [ih]
    show N _ = _
    rw [h.2 _ (Nat.mod_lt _ h.pos)]
    congr 2
    rw [← Nat.add_assoc, Nat.mod_add_mod]

theorem IsCyc.onC {c : List Nat} (h : IsCyc N c) {x : Nat} (hx : x ∈ c) : Graph.it N c.length x = some x := by
  obtain ⟨j, hj, rfl⟩ := mem_getD hx
  rw [h.it hj, Nat.add_mod_right, Nat.mod_eq_of_lt hj]

theorem IsCyc.closed {c : List Nat} (h : IsCyc N c) : ∀ x y, x ∈ c → N x = some y → y ∈ c := by
  intro x y hx hy
  obtain ⟨j, hj, rfl⟩ := mem_getD hx
  rw [h.2 j hj] at hy
  cases hy
  exact getD_mem (Nat.mod_lt _ h.pos)

/-! ### Counting -/
theorem sub_len {l l' : List Nat} (h : l.Nodup) (hs : ∀ x ∈ l, x ∈ l') : l.length ≤ l'.length := by
  induction l generalizing l' with
  | nil => simp
  | cons a l ih =>
    have ha : a ∈ l' := hs a (by simp)
    have h1 := ih (l' := l'.erase a) (List.nodup_cons.1 h).2 (fun x hx => by
      have hne : x ≠ a := fun e => (List.nodup_cons.1 h).1 (e ▸ hx)
      exact (List.mem_erase_of_ne hne).2 (hs x (by simp [hx])))
    rw [List.length_erase_of_mem ha] at h1
    have := List.length_pos_of_mem ha
    simp
    omega

theorem nodup_le {l : List Nat} {n : Nat} (h : l.Nodup) (hl : ∀ x ∈ l, x < n) : l.length ≤ n := by
  have := sub_len (l' := List.range n) h (fun x hx => List.mem_range.2 (hl x hx))
  simpa using this

theorem count_eq {F : List Nat} {n : Nat} (h : F.Nodup) (hl : ∀ x ∈ F, x < n) : ((List.range n).filter (fun v => decide (v ∈ F))).length = F.length := by
  apply Nat.le_antisymm
  · exact sub_len (List.Nodup.sublist List.filter_sublist List.nodup_range) (fun x hx => by simp at hx; exact hx.2)
  · exact sub_len h (fun x hx => by simp; exact ⟨hl x hx, hx⟩)

/-! ### What has been found before a start -/
/-- One start: nothing new (all that it reaches was found), or the next cycle, by its first node. -/
def Step (n : Nat) (N : Nat → Option Nat) (found : List (List Nat)) (a b t : Nat) : Prop :=
  a ≤ found.length ∧ ((b = a ∧ ∀ k e, it N k t = some e → OnC N e → e ∈ (found.take a).flatten) ∨
  (b = a + 1 ∧ ∃ k e c, k ≤ n ∧ it N k t = some e ∧ found[a]? = some c ∧ c.head? = some e ∧ ∀ j, j < k → ∀ x, it N j t = some x → ¬ OnC N x))

theorem Step.more {n : Nat} {found : List (List Nat)} {a b t : Nat} (h : Step n N found a b t) (c' : List Nat) : Step n N (found ++ [c']) a b t := by
  refine ⟨by have := h.1; simp; omega, ?_⟩
  rcases h.2 with ⟨h1, h2⟩ | ⟨h1, k, e, c, h2, h3, h4, h5, h6⟩
  · exact .inl ⟨h1, fun k e hk he => by rw [List.take_append_of_le_length h.1]; exact h2 k e hk he⟩
  · refine .inr ⟨h1, k, e, c, h2, h3, ?_, h5, h6⟩
    rw [List.getElem?_append_left (List.getElem?_eq_some_iff.1 h4).1]
    exact h4

structure Inv (n : Nat) (N : Nat → Option Nat) (s : Nat) (found : List (List Nat)) (cnt : Nat → Nat) (Dn : Nat → Prop) : Prop where
  lt : ∀ x, Dn x → x < n
  closed : ∀ x y, Dn x → N x = some y → Dn y
  seen : ∀ t, t < s → Dn t
  cyc : ∀ c ∈ found, IsCyc N c
  inD : ∀ x ∈ found.flatten, Dn x
  nodup : found.flatten.Nodup
  all : ∀ x, Dn x → OnC N x → x ∈ found.flatten
  cnt0 : cnt 0 = 0
  cnts : cnt s = found.length
  step : ∀ t, t < s → Step n N found (cnt t) (cnt (t + 1)) t

theorem Inv.start (n : Nat) : Inv n N 0 [] (fun _ => 0) (fun _ => False) :=
  ⟨fun _ h => h.elim, fun _ _ h => h.elim, fun _ h => absurd h (Nat.not_lt_zero _), fun _ h => by simp at h, fun _ h => by simp at h, by simp, fun _ h => h.elim, rfl, rfl, fun _ h => absurd h (Nat.not_lt_zero _)⟩

/-- The path from a start: each node of it the next one of the node ahead; none done, none twice; where it stands. -/
structure Path (N : Nat → Option Nat) (s : Nat) (Dn : Nat → Prop) (p : List Nat) : Prop where
  at' : ∀ j, j < p.length → it N j s = some (p.getD j 0)
  nodup : p.Nodup
  fresh : ∀ x ∈ p, ¬ Dn x

theorem Path.nil (s : Nat) (Dn : Nat → Prop) : Path N s Dn [] := ⟨fun j h => by simp at h, by simp, fun x h => by simp at h⟩

theorem Path.snoc {s : Nat} {Dn : Nat → Prop} {p : List Nat} (h : Path N s Dn p) {i : Nat} (hi : it N p.length s = some i) (hD : ¬ Dn i) (hp : i ∉ p) : Path N s Dn (p ++ [i]) := by
  refine ⟨fun j hj => ?_, ?_, ?_⟩
  · simp at hj
    by_cases e : j = p.length
    · subst e; rw [hi]; simp [List.getD_eq_getElem?_getD]
    · have hlt : j < p.length := by omega
      rw [h.at' j hlt, List.getD_eq_getElem?_getD, List.getD_eq_getElem?_getD, List.getElem?_append_left hlt]
  · rw [List.nodup_append]
    refine ⟨h.nodup, by simp, fun a ha b hb => ?_⟩
    simp at hb
    subst hb
    exact fun e => hp (e ▸ ha)
  · intro x hx
    rcases List.mem_append.1 hx with hx | hx
    · exact h.fresh x hx
    · simp at hx; subst hx; exact hD

section
variable {n s : Nat} {found : List (List Nat)} {cnt : Nat → Nat} {Dn : Nat → Prop} {p : List Nat}

def upd (cnt : Nat → Nat) (s b : Nat) : Nat → Nat := fun t => if t ≤ s then cnt t else b

theorem closed' (hI : Inv n N s found cnt Dn) (hP : Path N s Dn p) (hcur : ∀ i, it N p.length s = some i → Dn i ∨ i ∈ p) : ∀ x y, (Dn x ∨ x ∈ p) → N x = some y → (Dn y ∨ y ∈ p) := by
  intro x y hx hy
  rcases hx with hx | hx
  · exact .inl (hI.closed x y hx hy)
  · obtain ⟨j, hj, rfl⟩ := mem_getD hx
    have h1 : it N (j + 1) s = some y := by
      show (it N j s).bind N = _
      rw [hP.at' j hj]; exact hy
    by_cases e : j + 1 = p.length
    · rw [e] at h1; exact hcur y h1
    · rw [hP.at' (j + 1) (by omega)] at h1
      cases h1
      exact .inr (getD_mem (by omega))

theorem path_lt (hN : ∀ x y, N x = some y → y < n) (hs : s < n) (hP : Path N s Dn p) : ∀ x ∈ p, x < n := by
  intro x hx
  obtain ⟨j, hj, rfl⟩ := mem_getD hx
  exact it_lt hN hs (hP.at' j hj)

theorem start_in (hI : Inv n N s found cnt Dn) (hP : Path N s Dn p) (hcur : ∀ i, it N p.length s = some i → Dn i ∨ i ∈ p) : Dn s ∨ s ∈ p := by
  cases p with
  | nil => exact hcur s rfl
  | cons a l =>
    have := hP.at' 0 (by simp)
    cases this
    exact .inr (by simp)

/-- Nothing new at this start. -/
theorem Inv.old (hN : ∀ x y, N x = some y → y < n) (hs : s < n) (hI : Inv n N s found cnt Dn) (hP : Path N s Dn p) (hcur : ∀ i, it N p.length s = some i → Dn i) :
    Inv n N (s + 1) found (upd cnt s found.length) (fun x => Dn x ∨ x ∈ p) := by
  have hcl := closed' hI hP (fun i hi => .inl (hcur i hi))
  have hall : ∀ x, (Dn x ∨ x ∈ p) → OnC N x → x ∈ found.flatten := by
    intro x hx hc
    rcases hx with hx | hx
    · exact hI.all x hx hc
    · obtain ⟨j, hj, rfl⟩ := mem_getD hx
      obtain ⟨z, hz⟩ := hc.goes (p.length - j)
      have h1 : it N p.length s = some z := by
        have := it_add_some (N := N) (b := p.length - j) (hP.at' j hj)
        rw [show j + (p.length - j) = p.length by omega] at this
        rw [this]; exact hz
      exact hI.all _ (hc.closed (S := Dn) hI.closed hz (hcur z h1)) hc
  refine ⟨fun x hx => hx.elim (hI.lt x) (path_lt hN hs hP x), hcl, fun t ht => ?_, hI.cyc, fun x hx => .inl (hI.inD x hx), hI.nodup, hall, ?_, ?_, fun t ht => ?_⟩
  · by_cases e : t = s
    · subst e; exact start_in hI hP (fun i hi => .inl (hcur i hi))
    · exact .inl (hI.seen t (by omega))
  · simp [upd, hI.cnt0]
  · simp [upd, show ¬ s + 1 ≤ s by omega]
  · by_cases e : t = s
    · subst e
      simp only [upd, Nat.le_refl, if_true, show ¬ t + 1 ≤ t by omega, if_false, hI.cnts]
      refine ⟨Nat.le_refl _, .inl ⟨rfl, fun k e hk he => ?_⟩⟩
      rw [List.take_of_length_le (Nat.le_refl _)]
      exact hall e (it_closed (S := fun x => Dn x ∨ x ∈ p) hcl (start_in hI hP (fun i hi => .inl (hcur i hi))) hk) he
    · have h1 : t ≤ s := by omega
      have h2 : t + 1 ≤ s := by omega
      simp only [upd, h1, h2, if_true]
      exact hI.step t (by omega)

/-- A new cycle at this start: the path from where it came back to. -/
theorem Inv.new (hN : ∀ x y, N x = some y → y < n) (hs : s < n) (hI : Inv n N s found cnt Dn) (hP : Path N s Dn p) {i idx : Nat} (hcur : it N p.length s = some i) (hidx : idx < p.length) (hi : p.getD idx 0 = i) :
    Inv n N (s + 1) (found ++ [p.drop idx]) (upd cnt s (found.length + 1)) (fun x => Dn x ∨ x ∈ p) := by
  have hip : i ∈ p := hi ▸ getD_mem hidx
  have hcur' : ∀ j, it N p.length s = some j → Dn j ∨ j ∈ p := fun j hj => by rw [hcur] at hj; cases hj; exact .inr hip
  have hcl := closed' hI hP hcur'
  have hlen : (p.drop idx).length = p.length - idx := by simp
  have hg : ∀ j, (p.drop idx).getD j 0 = p.getD (idx + j) 0 := fun j => by simp [List.getD_eq_getElem?_getD, List.getElem?_drop]
  have hC : IsCyc N (p.drop idx) := by
    refine ⟨fun e => by rw [e] at hlen; simp at hlen; omega, fun j hj => ?_⟩
    rw [hlen] at hj ⊢
    have h1 : it N (idx + j + 1) s = N (p.getD (idx + j) 0) := by
      show (it N (idx + j) s).bind N = _
      rw [hP.at' (idx + j) (by omega)]; rfl
    rw [hg, hg, ← h1]
    by_cases e : idx + j + 1 = p.length
    · rw [e, hcur, show j + 1 = p.length - idx by omega, Nat.mod_self, Nat.add_zero, hi]
    · rw [hP.at' _ (by omega), Nat.mod_eq_of_lt (by omega)]; rfl
  have hic : i ∈ p.drop idx := by
    rw [← hi, show p.getD idx 0 = (p.drop idx).getD 0 0 by rw [hg]; rfl]
    exact getD_mem (by omega)
  have hpc : ∀ x ∈ p, OnC N x → x ∈ p.drop idx := by
    intro x hx hc
    obtain ⟨j, hj, rfl⟩ := mem_getD hx
    have h1 := it_add_some (N := N) (b := p.length - j) (hP.at' j hj)
    rw [show j + (p.length - j) = p.length by omega, hcur] at h1
    exact hc.closed (S := fun x => x ∈ p.drop idx) hC.closed h1.symm hic
  have hall : ∀ x, (Dn x ∨ x ∈ p) → OnC N x → x ∈ (found ++ [p.drop idx]).flatten := by
    intro x hx hc
    rw [List.flatten_append]
    rcases hx with hx | hx
    · exact List.mem_append.2 (.inl (hI.all x hx hc))
    · exact List.mem_append.2 (.inr (by simpa using hpc x hx hc))
  refine ⟨fun x hx => hx.elim (hI.lt x) (path_lt hN hs hP x), hcl, fun t ht => ?_, ?_, ?_, ?_, hall, ?_, ?_, fun t ht => ?_⟩
  · by_cases e : t = s
    · subst e; exact start_in hI hP hcur'
    · exact .inl (hI.seen t (by omega))
  · intro c hc
    rcases List.mem_append.1 hc with hc | hc
    · exact hI.cyc c hc
    · simp at hc; subst hc; exact hC
  · intro x hx
    rw [List.flatten_append] at hx
    rcases List.mem_append.1 hx with hx | hx
    · exact .inl (hI.inD x hx)
    · exact .inr (List.mem_of_mem_drop (by simpa using hx))
  · rw [List.flatten_append, List.nodup_append]
    refine ⟨hI.nodup, ?_, fun a ha b hb e => ?_⟩
    · simp
      exact List.Nodup.sublist (List.drop_sublist _ _) hP.nodup
    · subst e
      exact hP.fresh a (List.mem_of_mem_drop (by simpa using hb)) (hI.inD a ha)
  · simp [upd, hI.cnt0]
  · simp [upd, show ¬ s + 1 ≤ s by omega]
  · by_cases e : t = s
    · subst e
      simp only [upd, Nat.le_refl, if_true, show ¬ t + 1 ≤ t by omega, if_false, hI.cnts]
      refine ⟨by simp, .inr ⟨rfl, idx, i, p.drop idx, ?_, by rw [hP.at' idx hidx, hi], by simp, ?_, fun j hj x hx hc => ?_⟩⟩
      · have := nodup_le hP.nodup (path_lt hN hs hP)
        omega
      · rw [List.head?_eq_getElem?, List.getElem?_drop, ← hi, List.getD_eq_getElem?_getD, List.getElem?_eq_getElem (by simpa using hidx)]
        rw [List.getElem?_eq_getElem hidx]
        rfl
      · rw [hP.at' j (by omega)] at hx
        cases hx
        have h1 := hpc _ (getD_mem (by omega)) hc
        have h2 : p.getD j 0 ∈ p.take idx := by
          have : j < (p.take idx).length := by simp; omega
          have e : (p.take idx).getD j 0 = p.getD j 0 := by simp [List.getD_eq_getElem?_getD, List.getElem?_take_of_lt hj]
          rw [← e]
          exact getD_mem this
        have hnd := hP.nodup
        rw [← List.take_append_drop idx p, List.nodup_append] at hnd
        exact hnd.2.2 _ h2 _ h1 rfl
    · have h1 : t ≤ s := by omega
      have h2 : t + 1 ≤ s := by omega
      simp only [upd, h1, h2, if_true]
      exact (hI.step t (by omega)).more _
end

/-- ALL THAT cycles ANSWERS. -/
structure Ans (n : Nat) (N : Nat → Option Nat) (found : List (List Nat)) (cnt : Nat → Nat) : Prop where
  cyc : ∀ c ∈ found, IsCyc N c
  lt : ∀ x ∈ found.flatten, x < n
  nodup : found.flatten.Nodup
  all : ∀ x, x < n → (OnC N x ↔ x ∈ found.flatten)
  cnt0 : cnt 0 = 0
  cntn : cnt n = found.length
  step : ∀ t, t < n → Step n N found (cnt t) (cnt (t + 1)) t

theorem Inv.ans {n : Nat} {found : List (List Nat)} {cnt : Nat → Nat} {Dn : Nat → Prop} (hI : Inv n N n found cnt Dn) : Ans n N found cnt :=
  ⟨hI.cyc, fun x hx => hI.lt x (hI.inD x hx), hI.nodup, fun x hx => ⟨hI.all x (hI.seen x hx), fun h => by
    obtain ⟨c, hc, hxc⟩ := List.mem_flatten.1 h
    exact ⟨c.length, (hI.cyc c hc).pos, (hI.cyc c hc).onC hxc⟩⟩, hI.cnt0, hI.cnts, hI.step⟩
end
end Go.Proofs.Ybulkalhs.Graph
