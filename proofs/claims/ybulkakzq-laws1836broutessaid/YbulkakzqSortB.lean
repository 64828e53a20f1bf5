/-
  THE LAW's OWN SORTING: its state; what a name comes to; the route by its claims.
-/
import Derived.Test.YbulkakzqSetup
namespace Go.Proofs.Ybulkakzq.SortB
open Go.RowKit Wire Blocks Box Votes Names Fam Sp Sorts Rd Split Route New Setup
set_option linter.unusedVariables false

def rF (ow : Nat → Nat) (gr : Nat → Bool) (x : ByteArray) : Option Nat :=
  if x = nameAt 0 then (if gr 0 then some (ow 0) else none) else if x = nameAt 1 then (if gr 1 then some (ow 1) else none) else if x = nameAt 2 then (if gr 2 then some (ow 2) else none) else if x = nameAt 3 then (if gr 3 then some (ow 3) else none) else none

theorem rF_yes (ow : Nat → Nat) (gr : Nat → Bool) {i : Nat} (hi : i < 4) (hg : gr i = true) : rF ow gr (nameAt i) = some (ow i) := by
  have : i = 0 ∨ i = 1 ∨ i = 2 ∨ i = 3 := by omega
  rcases this with rfl | rfl | rfl | rfl <;> simp [rF, nameAt, six, hg]
theorem rF_no (ow : Nat → Nat) (gr : Nat → Bool) {i : Nat} (hi : i < 6) (hg : i < 4 → gr i = false) : rF ow gr (nameAt i) = none := by
  have : i = 0 ∨ i = 1 ∨ i = 2 ∨ i = 3 ∨ i = 4 ∨ i = 5 := by omega
  rcases this with rfl | rfl | rfl | rfl | rfl | rfl <;> simp [rF, nameAt, six] <;> (try exact hg (by omega))

theorem looked_claim (C : Nat → Nat) {i : Nat} (hi : i < 5) : looked (nameAt i) (claimL 5 C) = .pointer (some ⟨C i, 0, none⟩) := by
  have : i = 0 ∨ i = 1 ∨ i = 2 ∨ i = 3 ∨ i = 4 := by omega
  have e : claimL 5 C = [(nameAt 0, .pointer (some ⟨C 0, 0, none⟩)), (nameAt 1, .pointer (some ⟨C 1, 0, none⟩)), (nameAt 2, .pointer (some ⟨C 2, 0, none⟩)), (nameAt 3, .pointer (some ⟨C 3, 0, none⟩)), (nameAt 4, .pointer (some ⟨C 4, 0, none⟩))] := rfl
  rw [e]
  rcases this with rfl | rfl | rfl | rfl | rfl <;> simp [looked, posS, nameAt, six]
theorem looked_none (C : Nat → Nat) : looked (nameAt 5) (claimL 5 C) = .pointer none := by
  have e : claimL 5 C = [(nameAt 0, .pointer (some ⟨C 0, 0, none⟩)), (nameAt 1, .pointer (some ⟨C 1, 0, none⟩)), (nameAt 2, .pointer (some ⟨C 2, 0, none⟩)), (nameAt 3, .pointer (some ⟨C 3, 0, none⟩)), (nameAt 4, .pointer (some ⟨C 4, 0, none⟩))] := rfl
  rw [e]
  simp [looked, posS, nameAt, six]

/-- The route of a name. -/
theorem route_at {w wx : World} {gb nb ib : Nat} {o0 o1 o2 o3 : Int} {g0 g1 g2 g3 child : Bool} {s : ByteArray} {a b : Int} {C P ow : Nat → Nat} {gr : Nat → Bool} (hB : Base w wx gb nb ib o0 o1 o2 o3 g0 g1 g2 g3 child s a b) (hC : Cl wx nb 5 C P ow gr) (h4 : gr 4 = false) (fp : Bool) {i : Nat} (hi : i < 6) :
    Calls Yba.prog 30 #[.pointer (some ⟨gb, 0, none⟩), .string (nameAt i), .bool fp] wx fun e w' => e = .returned (if i < 4 ∧ gr i = true then .tuple #[.pointer (some ⟨P (ow i), 0, none⟩), .bool false] else .tuple #[.pointer none, .bool (child && !fp)]) ∧ w' = wx := by
  obtain ⟨c, hc, h11, h3⟩ := hB.grp
  have e11 : wx.cell? ⟨gb, 11, none⟩ = some (.map (some nb)) := (blk_cell hc 11).trans h11
  have e3 : wx.cell? ⟨gb, 3, none⟩ = some (.bool (!child)) := (blk_cell hc 3).trans h3
  by_cases h5 : i < 5
  · have hcl := hC.cl i h5
    have k0 : wx.cell? ⟨C i, 0, none⟩ = some (.pointer (some ⟨P (ow i), 0, none⟩)) := (blk_cell (T := 81) hcl 0).trans rfl
    have k12 : wx.cell? ⟨C i, 12, none⟩ = some (.bool (gr i)) := (blk_cell (T := 81) hcl 12).trans rfl
    refine (route_claim gb nb (C i) (P (ow i)) (nameAt i) fp (!child) (gr i) (claimL 5 C) wx hC.sm e11 e3 (looked_claim C h5) k0 k12).mono ?_
    rintro e w' ⟨rfl, rfl⟩
    refine ⟨?_, rfl⟩
    by_cases hg : gr i = true
    · have hi4 : i < 4 := by
        rcases Nat.lt_or_ge i 4 with h | h
        · exact h
        · obtain rfl : i = 4 := by omega
          rw [h4] at hg; cases hg
      simp [hg, hi4]
    · simp [hg]
  · obtain rfl : i = 5 := by omega
    refine (route_none gb nb (nameAt 5) fp (!child) (claimL 5 C) wx hC.sm e11 e3 (looked_none C)).mono ?_
    rintro e w' ⟨rfl, rfl⟩
    simp

/-! ### The state -/
def noP (_ : Nat) : List Value := []
structure So (wB wr : World) (db n : Nat) (l : List ByteArray) (kd : Nat) (hpV hnV upV : Value) (T : List T3) (U : List ByteArray) : Prop where
  sp : Sp 110 0 noP wB.heap.size wr hnV upV (.slice none 0 0) T U []
  hp : wr.ownsRow wB.heap.size 3 1 hpV T.length (T.map fun t => .int .i64 (t.1 : Int))
  dst : wr.ownsRow db 9 1 (.slice (some ⟨db, 0, none⟩) n n) n ((l.take kd).map Value.string ++ List.replicate (n - kd) (.string ⟨#[]⟩))
  fr : Fr wB.heap.size (fun k => k = db) wB wr
  dlt : db < wB.heap.size

section
variable {wB wr w' : World} {db n kd : Nat} {l : List ByteArray} {hpV hnV upV : Value} {T : List T3} {U : List ByteArray}

theorem So.size (h : So wB wr db n l kd hpV hnV upV T U) : wB.heap.size ≤ wr.heap.size := h.fr.size
theorem So.below (h : So wB wr db n l kd hpV hnV upV T U) (hb : Below wr.heap.size wr w') : So wB w' db n l kd hpV hnV upV T U :=
  ⟨h.sp.below hb, owns_fr h.hp (Fr.of_below (x := fun _ => False) hb) (fun _ _ h => h), owns_fr h.dst (Fr.of_below (x := fun _ => False) hb) (fun _ _ h => h), h.fr.trans (Fr.of_below (hb.mono h.size)), h.dlt⟩
theorem So.alloc (h : So wB wr db n l kd hpV hnV upV T U) (o : Obj) : So wB (wr.alloc o) db n l kd hpV hnV upV T U := h.below ((Below.refl _ _).alloc (Nat.le_refl _) _)

theorem So.store (h : So wB wr db n l kd hpV hnV upV T U) (hl : l.length = n) {x : ByteArray} (hx : l[kd]? = some x) : So wB (wr.setCell ⟨db, kd, none⟩ (.string x)) db n l (kd + 1) hpV hnV upV T U := by
  have hk : kd < l.length := (List.getElem?_eq_some_iff.1 hx).1
  have hs := (h.dst.stored kd (.string x)).1
  refine ⟨h.sp.setLow (a := ⟨db, kd, none⟩) h.dlt _, ownsRow_setCell_below (a := ⟨db, kd, none⟩) h.hp h.dlt _, ?_, h.fr.setCell (p := ⟨db, kd, none⟩) (.inr rfl) _, h.dlt⟩
  have e : ((l.take kd).map Value.string ++ List.replicate (n - kd) (Value.string ⟨#[]⟩)).set kd (.string x) = (l.take (kd + 1)).map Value.string ++ List.replicate (n - (kd + 1)) (Value.string ⟨#[]⟩) := by
    have h1 : ((l.take kd).map Value.string).length = kd := by simp; omega
    rw [List.set_append_right _ _ (by omega), h1, Nat.sub_self, take_snoc hx, show n - kd = (n - (kd + 1)) + 1 by omega, List.replicate_succ]
    simp
  rw [← e]; exact hs
theorem So.dcell (h : So wB wr db n l kd hpV hnV upV T U) (hk : kd < n) : (∃ v, wr.cell? ⟨db, kd, none⟩ = some v) ∧ wr.frozen? ⟨db, kd, none⟩ = false := by
  refine ⟨?_, h.dst.frozenAt kd⟩
  rw [h.dst.cellAt kd (by omega)]
  have : kd < ((l.take kd).map Value.string ++ List.replicate (n - kd) (Value.string ⟨#[]⟩)).length := by rw [h.dst.1]; omega
  exact ⟨_, List.getElem?_eq_getElem this⟩

/-- A row of the sorting's own grows. -/
theorem So.frG (h : So wB wr db n l kd hpV hnV upV T U) {row : Option Nat} (hg : wr.grownBy w' row) (hr : ∀ k, row = some k → wB.heap.size ≤ k) : Fr wB.heap.size (fun k => k = db) wB w' := h.fr.grown hg h.size (fun k hk => .inl (hr k hk))
theorem So.dstG (h : So wB wr db n l kd hpV hnV upV T U) {row : Option Nat} (hg : wr.grownBy w' row) (hr : ∀ k, row = some k → wB.heap.size ≤ k) : w'.ownsRow db 9 1 (.slice (some ⟨db, 0, none⟩) n n) n ((l.take kd).map Value.string ++ List.replicate (n - kd) (.string ⟨#[]⟩)) :=
  h.dst.kept hg (.inr (fun e => by have := hr db e.symm; have := h.dlt; omega))

theorem So.up (h : So wB wr db n l kd hpV hnV upV T U) {v' : Value} {x : ByteArray} (ho : w'.ownsRow wB.heap.size 9 1 v' (U.length + 1) (U.map Value.string ++ [.string x])) (hg : wr.grownBy w' upV.ownBlock) (hat : v'.ownBlock = upV.ownBlock ∨ v'.ownBlock = some wr.heap.size) :
    So wB w' db n l kd hpV hnV v' T (U ++ [x]) :=
  ⟨h.sp.up (by decide) ho hg hat, h.hp.kept hg (own_ne h.hp h.sp.ownU (by decide)), h.dstG hg (fun k hk => (h.sp.ownU.lt k hk).1), h.frG hg (fun k hk => (h.sp.ownU.lt k hk).1), h.dlt⟩

/-- The numbers of the peers have grown, the names not yet. -/
structure SoP (wB wr : World) (db n : Nat) (l : List ByteArray) (kd : Nat) (hpV hnV upV : Value) (T : List T3) (U : List ByteArray) (p : Nat) : Prop where
  sp : Sp 110 0 noP wB.heap.size wr hnV upV (.slice none 0 0) T U []
  hp : wr.ownsRow wB.heap.size 3 1 hpV (T.length + 1) ((T.map fun t => .int .i64 (t.1 : Int)) ++ [.int .i64 (p : Int)])
  dst : wr.ownsRow db 9 1 (.slice (some ⟨db, 0, none⟩) n n) n ((l.take kd).map Value.string ++ List.replicate (n - kd) (.string ⟨#[]⟩))
  fr : Fr wB.heap.size (fun k => k = db) wB wr
  dlt : db < wB.heap.size
theorem So.peer (h : So wB wr db n l kd hpV hnV upV T U) {v' : Value} {p : Nat} (ho : w'.ownsRow wB.heap.size 3 1 v' (T.length + 1) ((T.map fun t => .int .i64 (t.1 : Int)) ++ [.int .i64 (p : Int)])) (hg : wr.grownBy w' hpV.ownBlock) : SoP wB w' db n l kd v' hnV upV T U p :=
  ⟨⟨h.sp.own.kept hg (own_ne h.sp.own h.hp (by decide)), h.sp.fam.other h.hp (by decide) hg⟩, ho, h.dstG hg (fun k hk => (h.hp.lt k hk).1), h.frG hg (fun k hk => (h.hp.lt k hk).1), h.dlt⟩
theorem SoP.alloc {p : Nat} (h : SoP wB wr db n l kd hpV hnV upV T U p) (o : Obj) : SoP wB (wr.alloc o) db n l kd hpV hnV upV T U p :=
  ⟨h.sp.alloc o, h.hp.alloc o, h.dst.alloc o, h.fr.alloc h.fr.size o, h.dlt⟩
theorem SoP.names {p : Nat} (h : SoP wB wr db n l kd hpV hnV upV T U p) {v' : Value} (ho : w'.ownsRow wB.heap.size 110 1 v' (T.length + 1) (flatT noP T ++ [.slice none 0 0])) (hg : wr.grownBy w' hnV.ownBlock) : So wB w' db n l kd hpV v' upV (T ++ [(p, .slice none 0 0, [])]) U :=
  ⟨h.sp.hop (by decide) ho hg, by
    have := h.hp.kept hg (own_ne h.hp h.sp.own (by decide))
    simpa using this, h.dst.kept hg (.inr (fun e => by have := (h.sp.own.lt db e.symm).1; have := h.dlt; omega)), h.fr.grown hg h.fr.size (fun k hk => .inl (h.sp.own.lt k hk).1), h.dlt⟩

theorem So.name (h : So wB wr db n l kd hpV hnV upV T U) {i : Nat} {t : T3} (hi : T[i]? = some t) {v' : Value} {x : ByteArray} (ho : w'.ownsRow wB.heap.size 9 1 v' (t.2.2.length + 1) (t.2.2.map Value.string ++ [.string x])) (hg : wr.grownBy w' t.2.1.ownBlock) (hat : v'.ownBlock = t.2.1.ownBlock ∨ v'.ownBlock = some wr.heap.size)
    {g cap : Nat} (hf : hnV = .slice (some ⟨g, 0, none⟩) T.length cap) : So wB (w'.setCell ⟨g, i, none⟩ v') db n l kd hpV hnV upV (T.set i (t.1, v', t.2.2 ++ [x])) U := by
  have hsp := h.sp.name (by decide) (fun _ => rfl) hi ho hg hat hf
  simp only [Nat.zero_add, Nat.mul_one, Nat.add_zero] at hsp
  have hgB : wB.heap.size ≤ g := (h.sp.own.lt g (by rw [hf]; rfl)).1
  have hrow : w'.ownsRow wB.heap.size 110 1 hnV T.length (flatT noP T) := h.sp.keepsRow (by decide) (k := i + 2) (f := (t.2.1, t.2.2)) (by simp [famT, hi]) hg
  have hp' : w'.ownsRow wB.heap.size 3 1 hpV T.length (T.map fun t => .int .i64 (t.1 : Int)) := h.hp.kept hg (own_ne h.hp (h.sp.ownN hi) (by decide))
  obtain ⟨g', cap', cur, e, _, hgb, _⟩ := hrow.2.resolve_left (by rw [hf]; simp)
  rw [hf] at e
  simp at e
  obtain ⟨rfl, rfl⟩ := e
  refine ⟨hsp, ?_, ownsRow_setCell_other (h.dstG hg (fun k hk => h.sp.ltN hi k hk)) (by simp [Value.ownBlock]; have := h.dlt; omega) _, (h.frG hg (fun k hk => h.sp.ltN hi k hk)).setCell (p := ⟨g, i, none⟩) (.inl hgB) _, h.dlt⟩
  rw [List.length_set, List.map_set]
  have e2 : (T.map fun t => Value.int .i64 (t.1 : Int)).set i (.int .i64 (t.1 : Int)) = T.map fun t => .int .i64 (t.1 : Int) := by
    apply List.ext_getElem?
    intro j
    by_cases e : j = i
    · subst e; rw [List.getElem?_set_self (by have := (List.getElem?_eq_some_iff.1 hi).1; simpa using this), List.getElem?_map, hi]; rfl
    · rw [List.getElem?_set_ne (Ne.symm e)]
  simp only [e2]
  exact ownsRow_setCell_other (a := ⟨g, i, none⟩) hp' (own_type hp' hgb (by decide)) _

theorem So.pcell (h : So wB wr db n l kd hpV hnV upV T U) {i : Nat} {t : T3} (hi : T[i]? = some t) : ∃ g cap, hpV = .slice (some ⟨g, 0, none⟩) T.length cap ∧ wr.cell? ⟨g, i, none⟩ = some (.int .i64 (t.1 : Int)) := by
  have hil : i < T.length := (List.getElem?_eq_some_iff.1 hi).1
  obtain ⟨g, cap, e, _, _, _, _, hc, _⟩ := owns_row h.hp (by omega)
  exact ⟨g, cap, e, hc i _ (by simp [hi])⟩
end

/-- The search among the peers' numbers. -/
def FoundI (T : List T3) (p q : Nat) (i : Int) : Prop := ((∀ (j : Nat) (t : T3), j < q → T[j]? = some t → t.1 ≠ p) ∧ i = -1) ∨ ∃ (k : Nat) (t : T3), T[k]? = some t ∧ t.1 = p ∧ i = (k : Int)
theorem FoundI.zero (T : List T3) (p : Nat) : FoundI T p 0 (-1) := .inl ⟨fun j t h => absurd h (Nat.not_lt_zero _), rfl⟩
theorem FoundI.yes {T : List T3} {p q : Nat} {t : T3} (h : T[q]? = some t) (hp : t.1 = p) : FoundI T p (q + 1) q := .inr ⟨q, t, h, hp, rfl⟩
theorem FoundI.no {T : List T3} {p q : Nat} {i : Int} {t : T3} (h : FoundI T p q i) (ht : T[q]? = some t) (hp : t.1 ≠ p) : FoundI T p (q + 1) i := by
  rcases h with ⟨h1, h2⟩ | h
  · refine .inl ⟨fun j t' hj hjt => ?_, h2⟩
    by_cases e : j = q
    · subst e; rw [ht] at hjt; cases hjt; exact hp
    · exact h1 j t' (by omega) hjt
  · exact .inr h
end Go.Proofs.Ybulkakzq.SortB
