/-
  WHAT cycles HOLDS IN MEMORY: the marks, the rows of the paths that stay, the slice of slices that grows, the path.
-/
import Derived.Test.YbulkalhsBlocks
import Derived.OneCell
namespace Go.Proofs.Ybulkalhs.Mem
open Go.RowKit Blocks
set_option linter.unusedVariables false

/-- A row of n cells, each by its number. -/
def Row (w : World) (b T n : Nat) (f : Nat → Value) : Prop := ∃ cur, w.heap[b]? = some (.cells cur T (0, 0)) ∧ cur.size = n ∧ ∀ j, j < n → cur[j]? = some (f j)

section
variable {w w' : World} {b T n : Nat} {f : Nat → Value}
theorem Row.cell (h : Row w b T n f) {j : Nat} (hj : j < n) : w.cell? ⟨b, j, none⟩ = some (f j) := by
  obtain ⟨cur, h1, _, h3⟩ := h
  rw [blk_cell h1]; exact h3 j hj
theorem Row.free (h : Row w b T n f) (j : Nat) : w.frozen? ⟨b, j, none⟩ = false := by
  obtain ⟨cur, h1, _⟩ := h
  exact blk_free h1 j
theorem Row.lt (h : Row w b T n f) : b < w.heap.size := by obtain ⟨cur, h1, _⟩ := h; exact blk_lt h1
theorem Row.alloc (h : Row w b T n f) (o : Obj) : Row (w.alloc o) b T n f := by
  obtain ⟨cur, h1, h2⟩ := h
  exact ⟨cur, blk_alloc h1, h2⟩
theorem Row.drewN (h : Row w b T n f) (m : Nat) : Row (w.drewN m) b T n f := h
theorem Row.set (h : Row w b T n f) (i : Nat) (v : Value) : Row (w.setCell ⟨b, i, none⟩ v) b T n (fun j => if j = i then v else f j) := by
  obtain ⟨cur, h1, h2, h3⟩ := h
  refine ⟨_, blk_set h1 i v, by simpa using h2, fun j hj => ?_⟩
  by_cases e : j = i
  · subst e
    simp [h2, hj]
  · simp only [e, if_false]
    rw [Array.getElem?_setIfInBounds_ne (fun h => e h.symm)]
    exact h3 j hj
theorem Row.setOther (h : Row w b T n f) {a : Addr} (ha : b ≠ a.block) (v : Value) : Row (w.setCell a v) b T n f := by
  obtain ⟨cur, h1, h2⟩ := h
  exact ⟨cur, by rw [blk_set_other ha]; exact h1, h2⟩
theorem Row.congr (h : Row w b T n f) {g : Nat → Value} (hg : ∀ j, j < n → f j = g j) : Row w b T n g := by
  obtain ⟨cur, h1, h2, h3⟩ := h
  exact ⟨cur, h1, h2, fun j hj => by rw [h3 j hj, hg j hj]⟩
theorem Row.below {B : Nat} (h : Row w b T n f) (hb : Below B w w') (hB : b < B) : Row w' b T n f := by
  obtain ⟨cur, h1, h2⟩ := h
  exact ⟨cur, by rw [hb.block b hB]; exact h1, h2⟩
/-- A row of another type grows. -/
theorem Row.grown {B e m : Nat} {v : Value} {xs : List Value} (h : Row w b T n f) (hT : T ≠ e) (ho : w.ownsRow B e 1 v m xs) (hg : w.grownBy w' v.ownBlock) : Row w' b T n f := by
  obtain ⟨cur, h1, h2⟩ := h
  exact ⟨cur, keepBlk hT h1 ho hg, h2⟩
theorem Row.ne {B e m : Nat} {v : Value} {xs : List Value} (h : Row w b T n f) (hT : T ≠ e) (ho : w.ownsRow B e 1 v m xs) : v.ownBlock ≠ some b := by
  intro e1
  obtain ⟨cur, h1, _⟩ := h
  rcases ho.2 with ⟨rfl, _⟩ | ⟨g, cap, cur', rfl, _, hg, _⟩
  · simp [Value.ownBlock] at e1
  · simp [Value.ownBlock] at e1
    subst e1
    rw [h1] at hg
    simp at hg
    exact hT hg.2
end

/-- A row that make has laid. -/
theorem row_made {w : World} {B e b n : Nat} {z : Value} (h : w.ownsRow B e 1 (.slice (some ⟨b, 0, none⟩) n n) n (madeCells #[z] n).toList) : Row w b e n (fun _ => z) := by
  rcases h.2 with ⟨e1, _⟩ | ⟨g, cap, cur, e1, _, hg, _, _, hsz, ht⟩
  · cases e1
  · simp at e1
    obtain ⟨rfl, rfl⟩ := e1
    refine ⟨cur, hg, by simpa using hsz, fun j hj => ?_⟩
    rw [toList_madeCells_one] at ht
    have h1 : (cur.toList.take (n * 1))[j]? = some z := by rw [ht]; simp [hj]
    rw [List.getElem?_take_of_lt (by omega)] at h1
    simpa using h1

/-- The rows of numbers that stay. -/
def Holds (w : World) (M : List (Nat × Array Value)) : Prop := ∀ b c, (b, c) ∈ M → w.heap[b]? = some (.cells c 3 (0, 0))

def Ap (v : Value) (M : List (Nat × Array Value)) : Prop := ∀ b c, (b, c) ∈ M → v.ownBlock ≠ some b

/-- The cells are slices that lead to the listed rows, and these hold the lists. -/
def IsFound (M : List (Nat × Array Value)) (cs : List Value) (found : List (List Nat)) : Prop :=
  cs.length = found.length ∧ ∀ (k : Nat) (c : List Nat), found[k]? = some c → ∃ b o cp cur, cs[k]? = some (.slice (some ⟨b, o, none⟩) c.length cp) ∧ c.length ≤ cp ∧ (b, cur) ∈ M ∧ ∀ j, j < c.length → cur[o + j]? = some (.int .i64 (c.getD j 0 : Nat))

theorem IsFound.nil : IsFound [] [] [] := ⟨rfl, fun k c h => by simp at h⟩

theorem IsFound.mono {M M' : List (Nat × Array Value)} {cs : List Value} {found : List (List Nat)} (h : IsFound M cs found) (hs : ∀ x ∈ M, x ∈ M') : IsFound M' cs found :=
  ⟨h.1, fun k c hk => by obtain ⟨b, o, cp, cur, h1, h0, h2, h3⟩ := h.2 k c hk; exact ⟨b, o, cp, cur, h1, h0, hs _ h2, h3⟩⟩

theorem IsFound.snoc {M : List (Nat × Array Value)} {cs : List Value} {found : List (List Nat)} (h : IsFound M cs found) {b o cp : Nat} {cur : Array Value} {c : List Nat} (hcp : c.length ≤ cp) (hm : (b, cur) ∈ M) (hc : ∀ j, j < c.length → cur[o + j]? = some (.int .i64 (c.getD j 0 : Nat))) :
    IsFound M (cs ++ [.slice (some ⟨b, o, none⟩) c.length cp]) (found ++ [c]) := by
  refine ⟨by simp [h.1], fun k c' hk => ?_⟩
  by_cases e : k < found.length
  · rw [List.getElem?_append_left e] at hk
    obtain ⟨b', o', cp', cur', h1, h0, h2, h3⟩ := h.2 k c' hk
    exact ⟨b', o', cp', cur', by rw [List.getElem?_append_left (by have := h.1; omega)]; exact h1, h0, h2, h3⟩
  · rw [List.getElem?_append_right (by omega)] at hk
    have hk0 : k - found.length = 0 := by
      have := (List.getElem?_eq_some_iff.1 hk).1
      simp at this
      omega
    rw [hk0] at hk
    simp at hk
    subst hk
    exact ⟨b, o, cp, cur, by rw [List.getElem?_append_right (by have := h.1; omega), show k - cs.length = 0 by have := h.1; omega]; rfl, hcp, hm, hc⟩

/-- The whole: marks in block mb, the paths that stay, the slice of slices; the next row lies below. -/
structure Cs (w wr : World) (mb n : Nat) (mk : Nat → Int) (M : List (Nat × Array Value)) (s4 : Value) (cs : List Value) (found : List (List Nat)) : Prop where
  marks : Row wr mb 30 n (fun j => .int .i8 (mk j))
  mbB : w.heap.size ≤ mb
  holds : Holds wr M
  own : wr.ownsRow w.heap.size 23 1 s4 cs.length cs
  isf : IsFound M cs found
  bel : Below w.heap.size w wr

/-- The path beside it. -/
structure Pa (w wr : World) (M : List (Nat × Array Value)) (s6 : Value) (p : List Nat) : Prop where
  own : wr.ownsRow w.heap.size 3 1 s6 p.length (p.map fun x : Nat => .int .i64 (x : Int))
  ap : Ap s6 M

section
variable {w wr w' : World} {mb n : Nat} {mk : Nat → Int} {M : List (Nat × Array Value)} {s4 s6 : Value} {cs : List Value} {found : List (List Nat)} {p : List Nat}

theorem Cs.alloc (h : Cs w wr mb n mk M s4 cs found) (o : Obj) : Cs w (wr.alloc o) mb n mk M s4 cs found :=
  ⟨h.marks.alloc o, h.mbB, fun b c hm => blk_alloc (h.holds b c hm), h.own.alloc o, h.isf, h.bel.alloc h.bel.size o⟩
theorem Cs.drewN (h : Cs w wr mb n mk M s4 cs found) (m : Nat) : Cs w (wr.drewN m) mb n mk M s4 cs found :=
  ⟨h.marks, h.mbB, h.holds, h.own, h.isf, ⟨h.bel.os, h.bel.tape, h.bel.output, h.bel.size, h.bel.block⟩⟩
theorem Cs.set (h : Cs w wr mb n mk M s4 cs found) (i : Nat) (v : Int) : Cs w (wr.setCell ⟨mb, i, none⟩ (.int .i8 v)) mb n (fun j => if j = i then v else mk j) M s4 cs found :=
  ⟨(h.marks.set i _).congr (fun j _ => by split <;> rfl), h.mbB, fun b c hm => by
      have hne : b ≠ mb := fun e => by
        obtain ⟨cur, h1, _⟩ := h.marks
        have := h.holds b c hm
        rw [e, h1] at this
        simp at this
      rw [blk_set_other (a := ⟨mb, i, none⟩) hne]; exact h.holds b c hm,
    ownsRow_setCell_other h.own (h.marks.ne (by decide) h.own) _, h.isf, h.bel.setCell (p := ⟨mb, i, none⟩) h.mbB _⟩
theorem Pa.set (h : Cs w wr mb n mk M s4 cs found) (hp : Pa w wr M s6 p) (i : Nat) (v : Value) : Pa w (wr.setCell ⟨mb, i, none⟩ v) M s6 p :=
  ⟨ownsRow_setCell_other hp.own (h.marks.ne (by decide) hp.own) _, hp.ap⟩
theorem Pa.alloc (hp : Pa w wr M s6 p) (o : Obj) : Pa w (wr.alloc o) M s6 p := ⟨hp.own.alloc o, hp.ap⟩
theorem Pa.drewN (hp : Pa w wr M s6 p) (m : Nat) : Pa w (wr.drewN m) M s6 p := ⟨hp.own, hp.ap⟩
theorem Pa.nil : Pa w wr M (.slice none 0 0) [] := ⟨World.ownsRow_nil _ _ _ _, fun b c _ => by simp [Value.ownBlock]⟩

theorem own_ne {w : World} {B e e' n m : Nat} {v u : Value} {xs ys : List Value} (hv : w.ownsRow B e 1 v n xs) (hu : w.ownsRow B e' 1 u m ys) (h : e ≠ e') : v.ownBlock = none ∨ v.ownBlock ≠ u.ownBlock := by
  rcases hv.2 with ⟨rfl, _⟩ | ⟨g, cap, cur, rfl, _, hg, _⟩
  · left; rfl
  · right
    rcases hu.2 with ⟨rfl, _⟩ | ⟨g', cap', cur', rfl, _, hg', _⟩
    · simp [Value.ownBlock]
    · intro e1
      simp [Value.ownBlock] at e1
      subst e1
      rw [hg] at hg'
      simp at hg'
      exact h hg'.2

/-- The path grows. -/
theorem Cs.path (h : Cs w wr mb n mk M s4 cs found) (hp : Pa w wr M s6 p) (hg : wr.grownBy w' s6.ownBlock) : Cs w w' mb n mk M s4 cs found :=
  ⟨h.marks.grown (by decide) hp.own hg, h.mbB, fun b c hm => by
      rw [hg.block b (blk_lt (h.holds b c hm)) (fun e => hp.ap b c hm e.symm)]; exact h.holds b c hm,
    h.own.kept hg (own_ne h.own hp.own (by decide)), h.isf, h.bel.grown hg h.bel.size (fun k hk => (hp.own.lt k hk).1)⟩
theorem Pa.grow (h : Cs w wr mb n mk M s4 cs found) (hp : Pa w wr M s6 p) {v' : Value} (x : Nat) (ho : w'.ownsRow w.heap.size 3 1 v' (p.length + 1) ((p.map fun x : Nat => .int .i64 (x : Int)) ++ [.int .i64 (x : Int)])) (hat : v'.ownBlock = s6.ownBlock ∨ v'.ownBlock = some wr.heap.size) : Pa w w' M v' (p ++ [x]) :=
  ⟨by simpa using ho, fun b c hm e => by
    rcases hat with hat | hat
    · exact hp.ap b c hm (hat ▸ e)
    · rw [hat] at e
      have := blk_lt (h.holds b c hm)
      simp at e
      omega⟩
/-- The slice of slices grows. -/
theorem Cs.grow (h : Cs w wr mb n mk M s4 cs found) {v' u : Value} {found' : List (List Nat)} (ho : w'.ownsRow w.heap.size 23 1 v' (cs.length + 1) (cs ++ [u])) (hg : wr.grownBy w' s4.ownBlock) (hf : IsFound M (cs ++ [u]) found') : Cs w w' mb n mk M v' (cs ++ [u]) found' :=
  ⟨h.marks.grown (by decide) h.own hg, h.mbB, fun b c hm => keepBlk (by decide) (h.holds b c hm) h.own hg, by simpa using ho, hf, h.bel.grown hg h.bel.size (fun k hk => (h.own.lt k hk).1)⟩
theorem Pa.other (h : Cs w wr mb n mk M s4 cs found) (hp : Pa w wr M s6 p) (hg : wr.grownBy w' s4.ownBlock) : Pa w w' M s6 p :=
  ⟨hp.own.kept hg (own_ne hp.own h.own (by decide)), hp.ap⟩
/-- The path's row joins those that stay. -/
theorem Cs.join (h : Cs w wr mb n mk M s4 cs found) {b : Nat} {cur : Array Value} (hb : wr.heap[b]? = some (.cells cur 3 (0, 0))) : Cs w wr mb n mk (M ++ [(b, cur)]) s4 cs found :=
  ⟨h.marks, h.mbB, fun b' c hm => by
    rcases List.mem_append.1 hm with hm | hm
    · exact h.holds b' c hm
    · simp at hm
      obtain ⟨rfl, rfl⟩ := hm
      exact hb, h.own, h.isf.mono (fun x hx => by simp [hx]), h.bel⟩
theorem Cs.marked (h : Cs w wr mb n mk M s4 cs found) {mk' : Nat → Int} (hm : ∀ j, j < n → mk j = mk' j) : Cs w wr mb n mk' M s4 cs found :=
  ⟨h.marks.congr (fun j hj => by rw [hm j hj]), h.mbB, h.holds, h.own, h.isf, h.bel⟩
end
end Go.Proofs.Ybulkalhs.Mem
