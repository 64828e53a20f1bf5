/-
  WHAT THE LAW LAYS IN MEMORY: chains, tables, rulesets, as a list of blocks that hold; three slices that grow beside them. No walk.
-/
import Derived.Test.YbulkalbgFmtBlocks
namespace Go.Proofs.YbulkalbgFmt.Mem
open Go.RowKit Blocks
set_option linter.unusedVariables false

/-- Each listed block lies there. -/
def Holds (w : World) (M : List (Nat × Obj)) : Prop := ∀ b o, (b, o) ∈ M → w.heap[b]? = some o

theorem Holds.lt {w : World} {M : List (Nat × Obj)} (h : Holds w M) {b : Nat} {o : Obj} (hm : (b, o) ∈ M) : b < w.heap.size := blk_lt (h b o hm)
theorem Holds.below {w w' : World} {M : List (Nat × Obj)} (h : Holds w M) (hb : Below w.heap.size w w') : Holds w' M := fun b o hm => by rw [hb.block b (h.lt hm)]; exact h b o hm
theorem Holds.alloc {w : World} {M : List (Nat × Obj)} (h : Holds w M) (o : Obj) : Holds (w.alloc o) (M ++ [(w.heap.size, o)]) := by
  intro b o' hm
  rcases List.mem_append.1 hm with hm | hm
  · exact blk_alloc (h b o' hm)
  · simp at hm
    obtain ⟨rfl, rfl⟩ := hm
    exact heap_alloc_new w _
theorem Holds.grown {w w' : World} {M : List (Nat × Obj)} {row : Option Nat} (h : Holds w M) (hg : w.grownBy w' row) (hr : ∀ b o, (b, o) ∈ M → row ≠ some b) : Holds w' M := fun b o hm => by
  rw [hg.block b (h.lt hm) (fun e => hr b o hm e.symm)]; exact h b o hm

/-- The value's own row is none of the listed blocks. -/
def Ap (v : Value) (M : List (Nat × Obj)) : Prop := ∀ b o, (b, o) ∈ M → v.ownBlock ≠ some b

/-- Three slices that grow (rulesets, two of chains), beside the listed blocks. -/
structure Three (w : World) (B : Nat) (M : List (Nat × Obj)) (v0 v1 v2 : Value) (n0 n1 n2 : Nat) (x0 x1 x2 : List Value) : Prop where
  holds : Holds w M
  o0 : w.ownsRow B 33 1 v0 n0 x0
  o1 : w.ownsRow B 25 1 v1 n1 x1
  o2 : w.ownsRow B 25 1 v2 n2 x2
  a0 : Ap v0 M
  a1 : Ap v1 M
  a2 : Ap v2 M
  a12 : ∀ k, v1.ownBlock = some k → v2.ownBlock ≠ some k
  base : B ≤ w.heap.size

theorem own_ne {w : World} {B e e' n m : Nat} {v u : Value} {xs ys : List Value} (hv : w.ownsRow B e 1 v n xs) (hu : w.ownsRow B e' 1 u m ys) (h : e ≠ e') : v.ownBlock = none ∨ v.ownBlock ≠ u.ownBlock := by
  rcases hv.2 with ⟨rfl, _⟩ | ⟨g, cap, cur, rfl, _, hg, _⟩
  · left; rfl
  · right
    rcases hu.2 with ⟨rfl, _⟩ | ⟨g', cap', cur', rfl, _, hg', _⟩
    · simp [Value.ownBlock]
    · intro e1
      simp [Value.ownBlock] at e1
      subst e1
      rw [hg] at hg'
      simp at hg'
      exact h hg'.2

section
variable {w w' : World} {B : Nat} {M : List (Nat × Obj)} {v0 v1 v2 : Value} {n0 n1 n2 : Nat} {x0 x1 x2 : List Value}

theorem Ap.more {v : Value} (h : Ap v M) {b : Nat} (hb : v.ownBlock ≠ some b) (o : Obj) : Ap v (M ++ [(b, o)]) := by
  intro b' o' hm
  rcases List.mem_append.1 hm with hm | hm
  · exact h b' o' hm
  · simp at hm
    obtain ⟨rfl, rfl⟩ := hm
    exact hb

theorem lt_ne {w : World} {B e n : Nat} {v : Value} {xs : List Value} (h : w.ownsRow B e 1 v n xs) : v.ownBlock ≠ some w.heap.size := fun e1 => by have := (h.lt _ e1).2; omega

theorem Three.alloc (h : Three w B M v0 v1 v2 n0 n1 n2 x0 x1 x2) (o : Obj) : Three (w.alloc o) B (M ++ [(w.heap.size, o)]) v0 v1 v2 n0 n1 n2 x0 x1 x2 :=
  ⟨h.holds.alloc o, h.o0.alloc o, h.o1.alloc o, h.o2.alloc o, h.a0.more (lt_ne h.o0) o, h.a1.more (lt_ne h.o1) o, h.a2.more (lt_ne h.o2) o, h.a12, by have := h.base; simp; omega⟩

/-- A new block that is not listed. -/
theorem Three.alloc' (h : Three w B M v0 v1 v2 n0 n1 n2 x0 x1 x2) (o : Obj) : Three (w.alloc o) B M v0 v1 v2 n0 n1 n2 x0 x1 x2 :=
  ⟨fun b o' hm => blk_alloc (h.holds b o' hm), h.o0.alloc o, h.o1.alloc o, h.o2.alloc o, h.a0, h.a1, h.a2, h.a12, by have := h.base; simp; omega⟩

theorem Three.drew (h : Three w B M v0 v1 v2 n0 n1 n2 x0 x1 x2) : Three w.drew B M v0 v1 v2 n0 n1 n2 x0 x1 x2 := ⟨h.holds, h.o0, h.o1, h.o2, h.a0, h.a1, h.a2, h.a12, h.base⟩

/-- A block joins the list. -/
theorem Three.join (h : Three w B M v0 v1 v2 n0 n1 n2 x0 x1 x2) {b : Nat} {o : Obj} (hb : w.heap[b]? = some o) (h0 : v0.ownBlock ≠ some b) (h1 : v1.ownBlock ≠ some b) (h2 : v2.ownBlock ≠ some b) : Three w B (M ++ [(b, o)]) v0 v1 v2 n0 n1 n2 x0 x1 x2 :=
  ⟨fun b' o' hm => by
    rcases List.mem_append.1 hm with hm | hm
    · exact h.holds b' o' hm
    · simp at hm
      obtain ⟨rfl, rfl⟩ := hm
      exact hb, h.o0, h.o1, h.o2, h.a0.more h0 o, h.a1.more h1 o, h.a2.more h2 o, h.a12, h.base⟩

/-- A row of another type than the three grows: nothing of them turns. -/
theorem Three.other (h : Three w B M v0 v1 v2 n0 n1 n2 x0 x1 x2) {e m : Nat} {u : Value} {ys : List Value} (hu : w.ownsRow B e 1 u m ys) (h33 : e ≠ 33) (h25 : e ≠ 25) (hap : Ap u M) (hg : w.grownBy w' u.ownBlock) : Three w' B M v0 v1 v2 n0 n1 n2 x0 x1 x2 :=
  ⟨h.holds.grown hg hap, h.o0.kept hg (own_ne h.o0 hu (Ne.symm h33)), h.o1.kept hg (own_ne h.o1 hu (Ne.symm h25)), h.o2.kept hg (own_ne h.o2 hu (Ne.symm h25)), h.a0, h.a1, h.a2, h.a12, Nat.le_trans h.base hg.size⟩

theorem ap_at {v v' : Value} (h : Holds w M) (ha : Ap v M) (hat : v'.ownBlock = v.ownBlock ∨ v'.ownBlock = some w.heap.size) : Ap v' M := by
  intro b o hm e
  rcases hat with hat | hat
  · exact ha b o hm (hat ▸ e)
  · rw [hat] at e
    have := h.lt hm
    simp at e
    omega

theorem Three.grow0 (h : Three w B M v0 v1 v2 n0 n1 n2 x0 x1 x2) {v' : Value} {m : Nat} {ys : List Value} (ho : w'.ownsRow B 33 1 v' m ys) (hg : w.grownBy w' v0.ownBlock) (hat : v'.ownBlock = v0.ownBlock ∨ v'.ownBlock = some w.heap.size) :
    Three w' B M v' v1 v2 m n1 n2 ys x1 x2 :=
  ⟨h.holds.grown hg h.a0, ho, h.o1.kept hg (own_ne h.o1 h.o0 (by decide)), h.o2.kept hg (own_ne h.o2 h.o0 (by decide)), ap_at h.holds h.a0 hat, h.a1, h.a2, h.a12, Nat.le_trans h.base hg.size⟩

theorem Three.grow1 (h : Three w B M v0 v1 v2 n0 n1 n2 x0 x1 x2) {v' : Value} {m : Nat} {ys : List Value} (ho : w'.ownsRow B 25 1 v' m ys) (hg : w.grownBy w' v1.ownBlock) (hat : v'.ownBlock = v1.ownBlock ∨ v'.ownBlock = some w.heap.size) :
    Three w' B M v0 v' v2 n0 m n2 x0 ys x2 := by
  have h2 : v2.ownBlock = none ∨ v2.ownBlock ≠ v1.ownBlock := by
    cases h1 : v1.ownBlock with
    | none => by_cases e : v2.ownBlock = none; exact .inl e; exact .inr e
    | some k => right; exact h.a12 k h1
  refine ⟨h.holds.grown hg h.a1, h.o0.kept hg (own_ne h.o0 h.o1 (by decide)), ho, h.o2.kept hg h2, h.a0, ap_at h.holds h.a1 hat, h.a2, ?_, Nat.le_trans h.base hg.size⟩
  intro k hk
  rcases hat with hat | hat
  · exact h.a12 k (hat ▸ hk)
  · rw [hat] at hk
    intro e
    have := (h.o2.lt _ e).2
    simp at hk
    omega

theorem Three.grow2 (h : Three w B M v0 v1 v2 n0 n1 n2 x0 x1 x2) {v' : Value} {m : Nat} {ys : List Value} (ho : w'.ownsRow B 25 1 v' m ys) (hg : w.grownBy w' v2.ownBlock) (hat : v'.ownBlock = v2.ownBlock ∨ v'.ownBlock = some w.heap.size) :
    Three w' B M v0 v1 v' n0 n1 m x0 x1 ys := by
  have h1 : v1.ownBlock = none ∨ v1.ownBlock ≠ v2.ownBlock := by
    cases h1 : v1.ownBlock with
    | none => left; rfl
    | some k => right; exact fun e => h.a12 k h1 e.symm
  refine ⟨h.holds.grown hg h.a2, h.o0.kept hg (own_ne h.o0 h.o2 (by decide)), h.o1.kept hg h1, ho, h.a0, h.a1, ap_at h.holds h.a2 hat, ?_, Nat.le_trans h.base hg.size⟩
  intro k hk e
  rcases hat with hat | hat
  · exact h.a12 k hk (hat ▸ e)
  · rw [hat] at e
    have := (h.o1.lt _ hk).2
    simp at e
    omega
end

/-! ### What is laid -/
def sIN : ByteArray := ⟨#[73, 78, 80, 85, 84]⟩
def sOUT : ByteArray := ⟨#[79, 85, 84, 80, 85, 84]⟩
def sPRE : ByteArray := ⟨#[80, 82, 69, 82, 79, 85, 84, 73, 78, 71]⟩
def sFIL : ByteArray := ⟨#[102, 105, 108, 116, 101, 114]⟩
def sRAW : ByteArray := ⟨#[114, 97, 119]⟩
def sACC : ByteArray := ⟨#[65, 67, 67, 69, 80, 84]⟩
def sDROP : ByteArray := ⟨#[68, 82, 79, 80]⟩
def sNO : ByteArray := ⟨#[]⟩

def ptr (b : Nat) : Value := .pointer (some ⟨b, 0, none⟩)
def chainO (nm pol : ByteArray) : Obj := .cells #[.string nm, .int .i64 0, .string pol, .slice none 0 0] 28 (0, 0)
def tabO (nm : ByteArray) (line : Int) (sb : Nat) : Obj := .cells #[.string nm, .int .i64 line, .slice (some ⟨sb, 0, none⟩) 2 2] 31 (0, 0)
def pairO (a b : Nat) : Obj := .cells #[.pointer (some ⟨a, 0, none⟩), .pointer (some ⟨b, 0, none⟩)] 25 (0, 0)
def setO (tb n cap : Nat) : Obj := .cells #[.slice (some ⟨tb, 0, none⟩) n cap, .int .u8 0, .map none, .int .u8 0, .string ⟨#[]⟩, .int .i64 0, .int .i64 0] 39 (0, 0)

/-- A table of two chains: OUTPUT, and the one of the given name in block cb. -/
def IsTab (M : List (Nat × Obj)) (t : Nat) (nm : ByteArray) (line : Int) (cn : ByteArray) (cb : Nat) (pol : ByteArray) : Prop :=
  ∃ sb ob, (t, tabO nm line sb) ∈ M ∧ (sb, pairO ob cb) ∈ M ∧ (ob, chainO sOUT sACC) ∈ M ∧ (cb, chainO cn pol) ∈ M

/-- A ruleset whose tables are the listed ones: block and name each. -/
def IsSet (M : List (Nat × Obj)) (r : Nat) (L : List (Nat × ByteArray)) : Prop :=
  ∃ tb cap cur, (r, setO tb L.length cap) ∈ M ∧ (tb, .cells cur 29 (0, 0)) ∈ M ∧ ∀ (j : Nat) (p : Nat × ByteArray), L[j]? = some p → cur[j]? = some (ptr p.1)

theorem IsTab.mono {M M' : List (Nat × Obj)} {t : Nat} {nm : ByteArray} {line : Int} {cn : ByteArray} {cb : Nat} {pol : ByteArray} (h : IsTab M t nm line cn cb pol) (hs : ∀ x ∈ M, x ∈ M') : IsTab M' t nm line cn cb pol := by
  obtain ⟨sb, ob, h1, h2, h3, h4⟩ := h
  exact ⟨sb, ob, hs _ h1, hs _ h2, hs _ h3, hs _ h4⟩
theorem IsSet.mono {M M' : List (Nat × Obj)} {r : Nat} {L : List (Nat × ByteArray)} (h : IsSet M r L) (hs : ∀ x ∈ M, x ∈ M') : IsSet M' r L := by
  obtain ⟨tb, cap, cur, h1, h2, h3⟩ := h
  exact ⟨tb, cap, cur, hs _ h1, hs _ h2, h3⟩

/-- One back end: its ruleset's, its INPUT chain's and its PREROUTING chain's blocks; its flags. -/
structure D where
  rs : Nat
  inb : Nat
  preb : Nat
  raw : Bool
  pre : Bool
  held : Bool
  inp : Bool

/-- The back end lies in the listed blocks. -/
def IsBack (M : List (Nat × Obj)) (d : D) : Prop :=
  ∃ fb rb L, IsSet M d.rs L ∧ IsTab M fb sFIL (if d.held then 1 else 0) sIN d.inb (if d.inp then sACC else sNO) ∧ (d.raw = true → IsTab M rb sRAW 1 sPRE d.preb (if d.pre then sDROP else sNO)) ∧
    (d.raw = false → L = [(fb, sFIL)]) ∧ (d.raw = true → L = [(fb, sFIL), (rb, sRAW)] ∨ L = [(rb, sRAW), (fb, sFIL)])

theorem IsBack.mono {M M' : List (Nat × Obj)} {d : D} (h : IsBack M d) (hs : ∀ x ∈ M, x ∈ M') : IsBack M' d := by
  obtain ⟨fb, rb, L, h1, h2, h3, h4, h5⟩ := h
  exact ⟨fb, rb, L, h1.mono hs, h2.mono hs, fun h => (h3 h).mono hs, h4, h5⟩

/-- The first of the listed that bears the name. -/
def named (L : List (Nat × ByteArray)) (x : ByteArray) : Option Addr := (L.find? fun p => decide (p.2 = x)).map fun p => ⟨p.1, 0, none⟩

theorem ne1 : decide (sFIL = sRAW) = false := by decide
theorem ne2 : decide (sRAW = sFIL) = false := by decide
theorem ne3 : decide (sOUT = sIN) = false := by decide
theorem ne4 : decide (sOUT = sPRE) = false := by decide

end Go.Proofs.YbulkalbgFmt.Mem
