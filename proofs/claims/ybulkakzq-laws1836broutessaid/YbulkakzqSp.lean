/-
  THE STATE of a sorting into hops: a row that holds, for each hop, some cells and the slice of its names; beside it the slices themselves.
-/
import Derived.Test.YbulkakzqFam
import Derived.Laws.OwnMore
namespace Go.Proofs.Ybulkakzq.Sp
open Go.RowKit Blocks Box Fam
set_option linter.unusedVariables false

/-- A hop: whither, the value of its names, its names. -/
abbrev T3 := Nat × Value × List ByteArray
def hopC (pre : Nat → List Value) (t : T3) : List Value := pre t.1 ++ [t.2.1]
def flatT (pre : Nat → List Value) (T : List T3) : List Value := T.flatMap (hopC pre)
def hopsT (T : List T3) : List (Nat × List ByteArray) := T.map fun t => (t.1, t.2.2)
def famT (uv : Value) (U : List ByteArray) (av : Value) (A : List ByteArray) (T : List T3) : List (Value × List ByteArray) := (uv, U) :: (av, A) :: T.map fun t => (t.2.1, t.2.2)

section
variable {pre : Nat → List Value} {q : Nat}

theorem flat_len (hp : ∀ p, (pre p).length = q) (T : List T3) : (flatT pre T).length = T.length * (q + 1) := by
  induction T with
  | nil => simp [flatT]
  | cons t T ih =>
    simp only [flatT, List.flatMap_cons, List.length_append, hopC, hp, List.length_cons, List.length_nil] at ih ⊢
    rw [ih, Nat.add_mul]; omega

theorem flat_at (hp : ∀ p, (pre p).length = q) : ∀ {T : List T3} {j : Nat} {t : T3}, T[j]? = some t → ∀ i, i < q + 1 → (flatT pre T)[j * (q + 1) + i]? = (hopC pre t)[i]?
  | [], _, _, h, _, _ => by simp at h
  | s :: T, 0, t, h, i, hi => by
    simp at h; subst h
    simp only [flatT, List.flatMap_cons, Nat.zero_mul, Nat.zero_add]
    rw [List.getElem?_append_left (by simp [hopC, hp]; omega)]
  | s :: T, j + 1, t, h, i, hi => by
    have h' : T[j]? = some t := by simpa using h
    have := flat_at hp h' i hi
    simp only [flatT, List.flatMap_cons]
    rw [List.getElem?_append_right (by simp [hopC, hp, Nat.add_mul]; omega), show (j + 1) * (q + 1) + i - (hopC pre s).length = j * (q + 1) + i by simp [hopC, hp, Nat.add_mul]; omega]
    exact this

theorem flat_val (hp : ∀ p, (pre p).length = q) {T : List T3} {j : Nat} {t : T3} (h : T[j]? = some t) : (flatT pre T)[j * (q + 1) + q]? = some t.2.1 := by
  rw [flat_at hp h q (by omega)]
  simp [hopC, hp]

theorem flat_set (hp : ∀ p, (pre p).length = q) : ∀ {T : List T3} {j : Nat} {t : T3}, T[j]? = some t → ∀ (v : Value) (l : List ByteArray), flatT pre (T.set j (t.1, v, l)) = (flatT pre T).set (j * (q + 1) + q) v
  | [], _, _, h, _, _ => by simp at h
  | s :: T, 0, t, h, v, l => by
    simp at h; subst h
    simp only [flatT, List.set_cons_zero, List.flatMap_cons, Nat.zero_mul, Nat.zero_add, hopC]
    rw [List.append_assoc, List.append_assoc, List.set_append_right _ _ (by rw [hp]; omega), hp]
    simp
  | s :: T, j + 1, t, h, v, l => by
    have h' : T[j]? = some t := by simpa using h
    have := flat_set hp h' v l
    simp only [flatT, List.set_cons_succ, List.flatMap_cons] at this ⊢
    rw [this, List.set_append_right _ _ (by simp [hopC, hp, Nat.add_mul]; omega), show (j + 1) * (q + 1) + q - (hopC pre s).length = j * (q + 1) + q by simp [hopC, hp, Nat.add_mul]; omega]

theorem flat_snoc (T : List T3) (t : T3) : flatT pre (T ++ [t]) = flatT pre T ++ hopC pre t := by simp [flatT]
end

/-- The state. -/
structure Sp (e q : Nat) (pre : Nat → List Value) (B : Nat) (w : World) (hv uv av : Value) (T : List T3) (U A : List ByteArray) : Prop where
  own : w.ownsRow B e (q + 1) hv T.length (flatT pre T)
  fam : Fam w B (famT uv U av A T)

section
variable {e q B : Nat} {pre : Nat → List Value} {w w' : World} {hv uv av : Value} {T : List T3} {U A : List ByteArray}

theorem Sp.start (e q : Nat) (pre : Nat → List Value) (B : Nat) (w : World) : Sp e q pre B w (.slice none 0 0) (.slice none 0 0) (.slice none 0 0) [] [] [] :=
  ⟨World.ownsRow_nil _ _ _ _, ((Fam.nil w B).snoc).snoc⟩
theorem Sp.alloc (h : Sp e q pre B w hv uv av T U A) (o : Obj) : Sp e q pre B (w.alloc o) hv uv av T U A := ⟨h.own.alloc o, h.fam.alloc o⟩
theorem Sp.below (h : Sp e q pre B w hv uv av T U A) (hb : Below w.heap.size w w') : Sp e q pre B w' hv uv av T U A :=
  ⟨h.own.kept (row := none) ⟨hb.os, hb.tape, hb.output, hb.size, fun k hk _ => hb.block k hk⟩ (by cases hv.ownBlock <;> simp), h.fam.below hb⟩
theorem Sp.setLow (h : Sp e q pre B w hv uv av T U A) {a : Addr} (ha : a.block < B) (v : Value) : Sp e q pre B (w.setCell a v) hv uv av T U A :=
  ⟨ownsRow_setCell_below h.own ha v, h.fam.set (fun k f hf e => by have := ((h.fam.own k f hf).lt _ e).1; omega) v⟩

theorem Sp.keepsRow (h : Sp e q pre B w hv uv av T U A) (he : e ≠ 9) {k : Nat} {f : Value × List ByteArray} (hf : (famT uv U av A T)[k]? = some f) (hg : w.grownBy w' f.1.ownBlock) : w'.ownsRow B e (q + 1) hv T.length (flatT pre T) :=
  h.own.kept hg (own_ne h.own (h.fam.own k f hf) he)

theorem Sp.up (h : Sp e q pre B w hv uv av T U A) (he : e ≠ 9) {v' : Value} {x : ByteArray} (ho : w'.ownsRow B 9 1 v' (U.length + 1) (U.map Value.string ++ [.string x])) (hg : w.grownBy w' uv.ownBlock) (hat : v'.ownBlock = uv.ownBlock ∨ v'.ownBlock = some w.heap.size) :
    Sp e q pre B w' hv v' av T (U ++ [x]) A :=
  ⟨h.keepsRow he (k := 0) (f := (uv, U)) rfl hg, h.fam.grow (k := 0) (f := (uv, U)) rfl ho hg hat⟩

theorem Sp.away (h : Sp e q pre B w hv uv av T U A) (he : e ≠ 9) {v' : Value} {x : ByteArray} (ho : w'.ownsRow B 9 1 v' (A.length + 1) (A.map Value.string ++ [.string x])) (hg : w.grownBy w' av.ownBlock) (hat : v'.ownBlock = av.ownBlock ∨ v'.ownBlock = some w.heap.size) :
    Sp e q pre B w' hv uv v' T U (A ++ [x]) :=
  ⟨h.keepsRow he (k := 1) (f := (av, A)) rfl hg, h.fam.grow (k := 1) (f := (av, A)) rfl ho hg hat⟩

theorem Sp.hop (h : Sp e q pre B w hv uv av T U A) (he : e ≠ 9) {v' : Value} {p : Nat} (ho : w'.ownsRow B e (q + 1) v' (T.length + 1) (flatT pre T ++ (pre p ++ [.slice none 0 0]))) (hg : w.grownBy w' hv.ownBlock) :
    Sp e q pre B w' v' uv av (T ++ [(p, .slice none 0 0, [])]) U A := by
  refine ⟨?_, ?_⟩
  · rw [flat_snoc, List.length_append]
    exact ho
  · have := (h.fam.other h.own (Ne.symm he) hg).snoc
    simpa [famT] using this

theorem Sp.name (h : Sp e q pre B w hv uv av T U A) (he : e ≠ 9) (hp : ∀ p, (pre p).length = q) {i : Nat} {t : T3} (hi : T[i]? = some t) {v' : Value} {x : ByteArray} (ho : w'.ownsRow B 9 1 v' (t.2.2.length + 1) (t.2.2.map Value.string ++ [.string x])) (hg : w.grownBy w' t.2.1.ownBlock) (hat : v'.ownBlock = t.2.1.ownBlock ∨ v'.ownBlock = some w.heap.size)
    {g cap : Nat} (hf : hv = .slice (some ⟨g, 0, none⟩) T.length cap) : Sp e q pre B (w'.setCell ⟨g, i * (q + 1) + q, none⟩ v') hv uv av (T.set i (t.1, v', t.2.2 ++ [x])) U A := by
  have hk : (famT uv U av A T)[i + 2]? = some (t.2.1, t.2.2) := by simp [famT, hi]
  have h1 := h.keepsRow he hk hg
  have h2 := h.fam.grow hk ho hg hat
  subst hf
  refine ⟨?_, ?_⟩
  · rw [flat_set hp hi, List.length_set]
    exact (h1.stored _ _).1
  · obtain ⟨g', cap', cur, hv', _, hg', _⟩ := h1.2.resolve_left (by simp)
    simp at hv'
    obtain ⟨rfl, rfl⟩ := hv'
    have e1 : famT uv U av A (T.set i (t.1, v', t.2.2 ++ [x])) = (famT uv U av A T).set (i + 2) (v', t.2.2 ++ [x]) := by simp [famT, List.map_set]
    rw [e1]
    exact h2.set (a := ⟨g, i * (q + 1) + q, none⟩) (fun k f hf => h2.type hg' he k f hf) v'

theorem Sp.valAt (h : Sp e q pre B w hv uv av T U A) (hp : ∀ p, (pre p).length = q) {i : Nat} {t : T3} (hi : T[i]? = some t) : ∃ g cap, hv = .slice (some ⟨g, 0, none⟩) T.length cap ∧ B ≤ g ∧ g < w.heap.size ∧ T.length ≤ cap ∧ w.cell? ⟨g, i * (q + 1) + q, none⟩ = some t.2.1 ∧ w.frozen? ⟨g, i * (q + 1) + q, none⟩ = false ∧ (∀ j, j < q → w.cell? ⟨g, i * (q + 1) + j, none⟩ = (pre t.1)[j]?) ∧ ∃ c, w.heap[g]? = some (.cells c e (0, 0)) := by
  have hil : i < T.length := (List.getElem?_eq_some_iff.1 hi).1
  have hin : ∀ j, j < q + 1 → i * (q + 1) + j < T.length * (q + 1) := fun j hj => by
    have := Nat.mul_le_mul_right (q + 1) (Nat.succ_le_of_lt hil)
    rw [Nat.succ_mul] at this
    omega
  obtain ⟨g, cap, cur, hv', hB, hg, hcap, _⟩ := h.own.2.resolve_left (by rintro ⟨_, h0⟩; omega)
  subst hv'
  refine ⟨g, cap, rfl, hB, blk_lt hg, hcap, ?_, h.own.frozenAt _, fun j hj => ?_, cur, hg⟩
  · rw [h.own.cellAt _ (hin q (by omega))]; exact flat_val hp hi
  · rw [h.own.cellAt _ (hin j (by omega)), flat_at hp hi j (by omega)]
    simp [hopC, List.getElem?_append_left, hp, hj]

theorem Sp.lt (h : Sp e q pre B w hv uv av T U A) : ∀ k, hv.ownBlock = some k → B ≤ k := fun k hk => (h.own.lt k hk).1
theorem Sp.ltF (h : Sp e q pre B w hv uv av T U A) {k : Nat} {f : Value × List ByteArray} (hf : (famT uv U av A T)[k]? = some f) : ∀ b, f.1.ownBlock = some b → B ≤ b := fun b hb => ((h.fam.own k f hf).lt b hb).1
theorem Sp.ownU (h : Sp e q pre B w hv uv av T U A) : w.ownsRow B 9 1 uv U.length (U.map Value.string) := h.fam.own 0 _ rfl
theorem Sp.ownA (h : Sp e q pre B w hv uv av T U A) : w.ownsRow B 9 1 av A.length (A.map Value.string) := h.fam.own 1 _ rfl
theorem Sp.ownN (h : Sp e q pre B w hv uv av T U A) {i : Nat} {t : T3} (hi : T[i]? = some t) : w.ownsRow B 9 1 t.2.1 t.2.2.length (t.2.2.map Value.string) := h.fam.own (i + 2) (t.2.1, t.2.2) (by simp [famT, hi])
theorem Sp.ltN (h : Sp e q pre B w hv uv av T U A) {i : Nat} {t : T3} (hi : T[i]? = some t) : ∀ b, t.2.1.ownBlock = some b → B ≤ b := fun b hb => ((h.ownN hi).lt b hb).1
end
end Go.Proofs.Ybulkakzq.Sp
