/-
  THE STATE of routeDecision: the log, the maps of the votes, the decision that is boxed, the onward that is handed in.
-/
import Derived.Test.YbulkakzqSplit
namespace Go.Proofs.Ybulkakzq.Rd
open Go.RowKit Wire Blocks Box Votes Dec
set_option linter.unusedVariables false

theorem owns_fr {w w' : World} {B e z n : Nat} {v : Value} {xs : List Value} {x : Nat → Prop} (h : w.ownsRow B e z v n xs) (hf : Fr w.heap.size x w w') (hx : ∀ k, v.ownBlock = some k → ¬ x k) : w'.ownsRow B e z v n xs := by
  refine ⟨h.1, ?_⟩
  rcases h.2 with hn | ⟨g, cap, cur, rfl, hb, hgg, rest⟩
  · exact .inl hn
  · exact .inr ⟨g, cap, cur, rfl, hb, by rw [hf.block g (blk_lt hgg) (hx g rfl)]; exact hgg, rest⟩

theorem Fr.quiet {w w' : World} (h : Below w.heap.size w w') (x : Nat → Prop) : Fr w.heap.size x w w' := Fr.of_below h

/-! ### The log -/
abbrev G3 := Nat × Value × List Int
def flatG (G : List G3) : List Value := G.flatMap fun g => [.int .i64 (g.1 : Int), g.2.1]

structure LogS (w : World) (lb B : Nat) (lv : Value) (G : List G3) : Prop where
  blk : w.heap[lb]? = some (logO lv)
  own : w.ownsRow B 121 2 lv G.length (flatG G)
  rows : ∀ g ∈ G, w.ownsRow B 5 1 g.2.1 g.2.2.length (bc g.2.2)

theorem LogS.fr {w w' : World} {lb B : Nat} {lv : Value} {G : List G3} {x : Nat → Prop} (h : LogS w lb B lv G) (hf : Fr w.heap.size x w w') (h1 : ¬ x lb) (h2 : ∀ k, B ≤ k → ¬ x k) : LogS w' lb B lv G :=
  ⟨by rw [hf.block _ (blk_lt h.blk) h1]; exact h.blk, owns_fr h.own hf (fun k hk => h2 k (h.own.lt k hk).1), fun g hg => owns_fr (h.rows g hg) hf (fun k hk => h2 k ((h.rows g hg).lt k hk).1)⟩

theorem LogS.put {w w' : World} {lb B : Nat} {lv : Value} {G : List G3} {i : Nat} {ys : List Int} (h : LogS w lb B lv G) (hB : B ≤ w.heap.size) (hlb : lb < B) (hb : BoxOut w w' lb B G.length lv (flatG G) i ys.length ys) : ∃ lv' cv, LogS w' lb B lv' (G ++ [(i, cv, ys)]) := by
  obtain ⟨lv', cv, h1, h2, h3, h4⟩ := hb
  refine ⟨lv', cv, h1, ?_, fun g hg => ?_⟩
  · simpa [flatG] using h2
  · simp at hg
    rcases hg with hg | rfl
    · refine owns_fr (h.rows g hg) h4 (fun k hk => ?_)
      rintro (rfl | e)
      · have := ((h.rows g hg).lt _ hk).1; omega
      · rcases own_ne (h.rows g hg) h.own (by decide) with e1 | e1
        · rw [e1] at hk; cases hk
        · exact e1 (hk.trans e.symm)
    · exact owns_mono h3 hB

/-! ### The votes -/
def Vs (w : World) (M : Nat → Nat) (s : ByteArray) (a b : Int) (S0 : List ByteArray) (D : Nat → List ByteArray) : Prop :=
  ∀ i, i < 3 → ∃ S, UM w (M i) s a b S ∧ S.Nodup ∧ ∀ y, y ∈ S ↔ y ∈ S0 ∧ y ∉ D i

section
variable {w w' : World} {M : Nat → Nat} {s : ByteArray} {a b : Int} {S0 : List ByteArray} {D D' : Nat → List ByteArray} {x : Nat → Prop}
theorem Vs.lt (h : Vs w M s a b S0 D) {i : Nat} (hi : i < 3) : M i < w.heap.size := by
  obtain ⟨S, h1, _⟩ := h i hi
  exact h1.lt
theorem Vs.fr (h : Vs w M s a b S0 D) (hf : Fr w.heap.size x w w') (hx : ∀ i, i < 3 → ¬ x (M i)) : Vs w' M s a b S0 D := fun i hi => by
  obtain ⟨S, h1, h2⟩ := h i hi
  exact ⟨S, h1.block (hf.block _ h1.lt (hx i hi)), h2⟩
theorem Vs.same (h : Vs w M s a b S0 D) (hD : ∀ i, i < 3 → ∀ y, y ∈ D i ↔ y ∈ D' i) : Vs w M s a b S0 D' := fun i hi => by
  obtain ⟨S, h1, h2, h3⟩ := h i hi
  exact ⟨S, h1, h2, fun y => by rw [h3 y, hD i hi y]⟩
/-- A vote is struck. -/
theorem Vs.strike (h : Vs w M s a b S0 D) (hM : ∀ i j, i < 3 → j < 3 → M i = M j → i = j) {i : Nat} (hi : i < 3) (y : ByteArray) (ty : TypeId) :
    ∃ w', (Builtin.delete_ #[51, 76] ty #[.map (some (M i)), kv s a b y]).run Yba.prog w = .ok (.tuple #[]) w' ∧ Vs w' M s a b S0 (fun q => if q = i then D q ++ [y] else D q) ∧ w.grownBy w' (some (M i)) := by
  obtain ⟨S, h1, h2, h3⟩ := h i hi
  obtain ⟨w', S', hr, hu, hn, hm, hg⟩ := del_run h1 h2 y ty
  refine ⟨w', hr, fun q hq => ?_, hg⟩
  by_cases e : q = i
  · subst e
    refine ⟨S', hu, hn, fun z => ?_⟩
    rw [hm z, h3 z]
    simp [and_assoc]
  · obtain ⟨R, r1, r2, r3⟩ := h q hq
    refine ⟨R, r1.block (hg.block _ r1.lt (fun e' => e (hM q i hq hi (Option.some.inj e')))), r2, fun z => ?_⟩
    rw [r3 z]
    simp [e]
/-- A map is no block of cells. -/
theorem Vs.ne (h : Vs w M s a b S0 D) {i : Nat} (hi : i < 3) {k T : Nat} {c : Array Value} (hk : w.heap[k]? = some (.cells c T (0, 0))) : k ≠ M i := by
  rintro rfl
  obtain ⟨S, ⟨es, cl, h1, _⟩, _⟩ := h i hi
  rw [h1] at hk
  cases hk
end

/-! ### The peers -/
structure PeerAt (w : World) (p xb m lb i : Nat) : Prop where
  link : ∃ c, w.heap[p]? = some (.cells c 71 (0, 0)) ∧ c[11]? = some (.bool (decide (0 < i))) ∧ c[13]? = some (.iface 36 (.pointer (some ⟨xb, 0, none⟩))) ∧ c[18]? = some (.map (some m))
  box : w.heap[xb]? = some (boxO i lb)

/-! ### The whole -/
def onwO (uv : Value) : Obj := .cells #[uv, .bool false, .nilIface, .slice none 0 0, .slice none 0 0, .slice none 0 0] 116 (0, 0)
def Xs (lb ob db : Nat) (M : Nat → Nat) (k : Nat) : Prop := k = lb ∨ k = ob ∨ k = db ∨ ∃ i, i < 3 ∧ k = M i

structure St (w1 w : World) (lb ob db : Nat) (M : Nat → Nat) (s : ByteArray) (a b : Int) (ab : Bool) (st : Int) (S0 : List ByteArray) (dv uv lv : Value) (G : List G3) (D : Nat → List ByteArray) : Prop where
  fr : Fr w1.heap.size (Xs lb ob db M) w1 w
  log : LogS w lb w1.heap.size lv G
  vs : Vs w M s a b S0 D
  d : w.heap[db]? = some (decO s a b dv ab st)
  o : w.heap[ob]? = some (onwO uv)
  llt : lb < w1.heap.size
  olt : ob < w1.heap.size
  dlt : db < w1.heap.size
  mlt : ∀ i, i < 3 → M i < w1.heap.size

section
variable {w1 w w' : World} {lb ob db : Nat} {M : Nat → Nat} {s : ByteArray} {a b : Int} {ab : Bool} {st : Int} {S0 : List ByteArray} {dv uv lv : Value} {G : List G3} {D : Nat → List ByteArray}

theorem fr_mono {x y : Nat → Prop} {B : Nat} (h : Fr w.heap.size x w w') (hB : B ≤ w.heap.size) (hx : ∀ k, k < B → x k → y k) : Fr B y w w' := h.mono hB hx

theorem St.size (h : St w1 w lb ob db M s a b ab st S0 dv uv lv G D) : w1.heap.size ≤ w.heap.size := h.fr.size

theorem St.quiet (h : St w1 w lb ob db M s a b ab st S0 dv uv lv G D) (hf : Fr w.heap.size (fun _ => False) w w') : St w1 w' lb ob db M s a b ab st S0 dv uv lv G D :=
  ⟨h.fr.trans (hf.mono h.size (fun _ _ h => h.elim)), h.log.fr hf (fun h => h) (fun _ _ h => h), h.vs.fr hf (fun _ _ h => h), by rw [hf.block _ (blk_lt h.d) (fun h => h)]; exact h.d, by rw [hf.block _ (blk_lt h.o) (fun h => h)]; exact h.o, h.llt, h.olt, h.dlt, h.mlt⟩
theorem St.below (h : St w1 w lb ob db M s a b ab st S0 dv uv lv G D) (hf : Below w.heap.size w w') : St w1 w' lb ob db M s a b ab st S0 dv uv lv G D := h.quiet (Fr.of_below hf)
theorem St.alloc (h : St w1 w lb ob db M s a b ab st S0 dv uv lv G D) (o : Obj) : St w1 (w.alloc o) lb ob db M s a b ab st S0 dv uv lv G D := h.below ((Below.refl _ _).alloc (Nat.le_refl _) _)

theorem St.lo (h : St w1 w lb ob db M s a b ab st S0 dv uv lv G D) : lb ≠ ob ∧ lb ≠ db ∧ ob ≠ db := by
  refine ⟨?_, ?_, ?_⟩
  · rintro rfl; have h1 := h.log.blk; rw [h.o] at h1; simp [onwO, logO] at h1
  · rintro rfl; have h1 := h.log.blk; rw [h.d] at h1; simp [decO, logO] at h1
  · rintro rfl; have h1 := h.o; rw [h.d] at h1; simp [decO, onwO] at h1

theorem St.setTo (h : St w1 w lb ob db M s a b ab st S0 dv uv lv G D) (v : Value) : St w1 (w.setCell ⟨db, 3, none⟩ v) lb ob db M s a b ab st S0 v uv lv G D := by
  have hf : Fr w.heap.size (fun k => k = db) w (w.setCell ⟨db, 3, none⟩ v) := (Fr.refl _ (fun k => k = db) w).setCell (p := ⟨db, 3, none⟩) (.inr rfl) v
  refine ⟨h.fr.trans (hf.mono h.size (fun k _ h => .inr (.inr (.inl h)))), h.log.fr hf h.lo.2.1 (fun k hk e => by have := h.dlt; subst e; omega), h.vs.fr hf (fun i hi e => h.vs.ne hi h.d e.symm), ?_, by rw [hf.block _ (blk_lt h.o) h.lo.2.2]; exact h.o, h.llt, h.olt, h.dlt, h.mlt⟩
  have := blk_set h.d 3 v
  simpa [decO] using this

theorem St.setUp (h : St w1 w lb ob db M s a b ab st S0 dv uv lv G D) (v : Value) : St w1 (w.setCell ⟨ob, 0, none⟩ v) lb ob db M s a b ab st S0 dv v lv G D := by
  have hf : Fr w.heap.size (fun k => k = ob) w (w.setCell ⟨ob, 0, none⟩ v) := (Fr.refl _ (fun k => k = ob) w).setCell (p := ⟨ob, 0, none⟩) (.inr rfl) v
  refine ⟨h.fr.trans (hf.mono h.size (fun k _ h => .inr (.inl h))), h.log.fr hf h.lo.1 (fun k hk e => by have := h.olt; subst e; omega), h.vs.fr hf (fun i hi e => h.vs.ne hi h.o e.symm), by rw [hf.block _ (blk_lt h.d) (Ne.symm h.lo.2.2)]; exact h.d, ?_, h.llt, h.olt, h.dlt, h.mlt⟩
  have := blk_set h.o 0 v
  simpa [onwO] using this

/-- A vote is struck from a map: the block of the map alone turns. -/
theorem St.strike (h : St w1 w lb ob db M s a b ab st S0 dv uv lv G D) {i : Nat} (hi : i < 3) {D' : Nat → List ByteArray} (hv : Vs w' M s a b S0 D') (hg : w.grownBy w' (some (M i))) : St w1 w' lb ob db M s a b ab st S0 dv uv lv G D' := by
  have hf : Fr w.heap.size (fun k => k = M i) w w' := (Fr.refl _ _ w).grown hg (Nat.le_refl _) (fun k hk => .inr (Option.some.inj hk).symm)
  exact ⟨h.fr.trans (hf.mono h.size (fun k _ h => .inr (.inr (.inr ⟨i, hi, h⟩)))), h.log.fr hf (h.vs.ne hi h.log.blk) (fun k hk e => by have := h.mlt i hi; subst e; omega), hv, by rw [hf.block _ (blk_lt h.d) (h.vs.ne hi h.d)]; exact h.d, by rw [hf.block _ (blk_lt h.o) (h.vs.ne hi h.o)]; exact h.o, h.llt, h.olt, h.dlt, h.mlt⟩

/-- A frame goes to an outbox. -/
theorem St.queue (h : St w1 w lb ob db M s a b ab st S0 dv uv lv G D) {i : Nat} {ys : List Int} (hb : BoxOut w w' lb w1.heap.size G.length lv (flatG G) i ys.length ys) : ∃ lv' cv, St w1 w' lb ob db M s a b ab st S0 dv uv lv' (G ++ [(i, cv, ys)]) D := by
  obtain ⟨lv', cv, hl⟩ := h.log.put h.size h.llt hb
  obtain ⟨_, _, _, _, _, h4⟩ := hb
  have hlow : ∀ k, k < w1.heap.size → k ≠ lb → ¬ (k = lb ∨ lv.ownBlock = some k) := fun k hk hne e => e.elim hne (fun e => by have := (h.log.own.lt k e).1; omega)
  refine ⟨lv', cv, h.fr.trans (h4.mono h.size (fun k hk e => ?_)), hl, h.vs.fr h4 (fun i hi => hlow _ (h.mlt i hi) (fun e => h.vs.ne hi h.log.blk e.symm)), ?_, ?_, h.llt, h.olt, h.dlt, h.mlt⟩
  · rcases e with e | e
    · exact .inl e
    · have := (h.log.own.lt k e).1; omega
  · rw [h4.block _ (blk_lt h.d) (hlow _ h.dlt (Ne.symm h.lo.2.1))]; exact h.d
  · rw [h4.block _ (blk_lt h.o) (hlow _ h.olt (Ne.symm h.lo.1))]; exact h.o

/-- At the start: what is none of the turned blocks. -/
theorem St.apart (h : St w1 w1 lb ob db M s a b ab st S0 dv uv lv G D) {k T : Nat} {c : Array Value} (hk : w1.heap[k]? = some (.cells c T (0, 0))) (h1 : T ≠ 33) (h2 : T ≠ 116) (h3 : T ≠ 119) : ¬ Xs lb ob db M k := by
  rintro (rfl | rfl | rfl | ⟨i, hi, rfl⟩)
  · rw [h.log.blk] at hk; simp [logO] at hk; exact h1 hk.2.symm
  · rw [h.o] at hk; simp [onwO] at hk; exact h2 hk.2.symm
  · rw [h.d] at hk; simp [decO] at hk; exact h3 hk.2.symm
  · exact h.vs.ne hi hk rfl

theorem PeerAt.fr {x : Nat → Prop} {p xb m i : Nat} (h : PeerAt w p xb m lb i) {B : Nat} (hf : Fr B x w w') (hp : p < B) (hxb : xb < B) (h1 : ¬ x p) (h2 : ¬ x xb) : PeerAt w' p xb m lb i :=
  ⟨by obtain ⟨c, hc, r⟩ := h.link; exact ⟨c, by rw [hf.block _ hp h1]; exact hc, r⟩, by rw [hf.block _ hxb h2]; exact h.box⟩
end
end Go.Proofs.Ybulkakzq.Rd
