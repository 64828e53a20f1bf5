/-
  THE STATE OF THE LAW's LOOP, and how it goes on.
-/
import Derived.Test.YbulkalbgFmtLoop
import Derived.Deep.DeepCutAuto
namespace Go.Proofs.YbulkalbgFmt.Round
open Go.RowKit Blocks Mem Reads Back Chains Errf Join Looped
set_option linter.unusedVariables false
set_option maxRecDepth 100000

/-- The rulesets, the chains wanted of raw and of filter; all new since w. -/
def St (w wx : World) (M : List (Nat × Obj)) (s7 s8 s9 : Value) (x0 x1 x2 : List Value) : Prop :=
  Three wx w.heap.size M s7 s8 s9 x0.length x1.length x2.length x0 x1 x2 ∧ Below w.heap.size w wx

section
variable {w wx : World} {M : List (Nat × Obj)} {s7 s8 s9 : Value} {x0 x1 x2 : List Value}
theorem St.start (w : World) : St w w [] (.slice none 0 0) (.slice none 0 0) (.slice none 0 0) [] [] [] :=
  ⟨⟨fun b o h => by simp at h, World.ownsRow_nil _ _ _ _, World.ownsRow_nil _ _ _ _, World.ownsRow_nil _ _ _ _, fun _ _ h => by simp at h, fun _ _ h => by simp at h, fun _ _ h => by simp at h, fun k h => by simp [Value.ownBlock] at h, Nat.le_refl _⟩, Below.refl _ _⟩
theorem St.alloc (h : St w wx M s7 s8 s9 x0 x1 x2) (o : Obj) : St w (wx.alloc o) (M ++ [(wx.heap.size, o)]) s7 s8 s9 x0 x1 x2 := ⟨h.1.alloc o, h.2.alloc h.1.base o⟩
theorem St.alloc' (h : St w wx M s7 s8 s9 x0 x1 x2) (o : Obj) : St w (wx.alloc o) M s7 s8 s9 x0 x1 x2 := ⟨h.1.alloc' o, h.2.alloc h.1.base o⟩
theorem St.grow0 (h : St w wx M s7 s8 s9 x0 x1 x2) {w' : World} {v' u : Value} (ho : w'.ownsRow w.heap.size 33 1 v' (x0.length + 1) (x0 ++ [u])) (hg : wx.grownBy w' s7.ownBlock) (hat : v'.ownBlock = s7.ownBlock ∨ v'.ownBlock = some wx.heap.size) :
    St w w' M v' s8 s9 (x0 ++ [u]) x1 x2 := ⟨by rw [List.length_append]; exact h.1.grow0 ho hg hat, h.2.grown hg h.1.base (fun k hk => (h.1.o0.lt k hk).1)⟩
theorem St.grow1 (h : St w wx M s7 s8 s9 x0 x1 x2) {w' : World} {v' u : Value} (ho : w'.ownsRow w.heap.size 25 1 v' (x1.length + 1) (x1 ++ [u])) (hg : wx.grownBy w' s8.ownBlock) (hat : v'.ownBlock = s8.ownBlock ∨ v'.ownBlock = some wx.heap.size) :
    St w w' M s7 v' s9 x0 (x1 ++ [u]) x2 := ⟨by rw [List.length_append]; exact h.1.grow1 ho hg hat, h.2.grown hg h.1.base (fun k hk => (h.1.o1.lt k hk).1)⟩
theorem St.grow2 (h : St w wx M s7 s8 s9 x0 x1 x2) {w' : World} {v' u : Value} (ho : w'.ownsRow w.heap.size 25 1 v' (x2.length + 1) (x2 ++ [u])) (hg : wx.grownBy w' s9.ownBlock) (hat : v'.ownBlock = s9.ownBlock ∨ v'.ownBlock = some wx.heap.size) :
    St w w' M s7 s8 v' x0 x1 (x2 ++ [u]) := ⟨by rw [List.length_append]; exact h.1.grow2 ho hg hat, h.2.grown hg h.1.base (fun k hk => (h.1.o2.lt k hk).1)⟩
end

/-- The tables of the round, a row of its own beside the state. -/
def Tabs (w wx : World) (M : List (Nat × Obj)) (u : Value) (L : List (Nat × ByteArray)) : Prop := wx.ownsRow w.heap.size 29 1 u L.length (L.map fun p => ptr p.1) ∧ Ap u M

theorem Tabs.new {w wx : World} {M : List (Nat × Obj)} (hM : Holds wx M) (hw : w.heap.size ≤ wx.heap.size) (L : List (Nat × ByteArray)) (hl : L.length ≤ 10) (hl0 : 0 < L.length) (cs : Array Value) (hcs : cs = (L.map fun p => ptr p.1).toArray) :
    Tabs w (wx.alloc (.cells cs 29)) M (.slice (some ⟨wx.heap.size, 0, none⟩) L.length L.length) L := by
  subst hcs
  refine ⟨⟨by simp, .inr ⟨wx.heap.size, L.length, _, rfl, hw, heap_alloc_new wx _, Nat.le_refl _, by unfold maxLen; omega, by simp, by simp [List.take_of_length_le]⟩⟩, ?_⟩
  intro b o hm e
  have := hM.lt hm
  simp [Value.ownBlock] at e
  omega

/-- The four blocks of one table. -/
def lay4 (wx : World) (nm : ByteArray) (line : Int) (cn pol : ByteArray) : World :=
  (((wx.alloc (chainO cn pol)).alloc (chainO sOUT sACC)).alloc (pairO (wx.heap.size + 1) wx.heap.size)).alloc (tabO nm line (wx.heap.size + 2))

theorem lay4_size (wx : World) (nm : ByteArray) (line : Int) (cn pol : ByteArray) : (lay4 wx nm line cn pol).heap.size = wx.heap.size + 4 := by simp [lay4]

/-- A row of tables that grows: the state lies unturned. -/
theorem St.tabs {w wx w' : World} {M : List (Nat × Obj)} {s7 s8 s9 : Value} {x0 x1 x2 : List Value} (h : St w wx M s7 s8 s9 x0 x1 x2) {u : Value} {L : List (Nat × ByteArray)} (ht : Tabs w wx M u L) (hg : wx.grownBy w' u.ownBlock) : St w w' M s7 s8 s9 x0 x1 x2 :=
  ⟨h.1.other ht.1 (by decide) (by decide) ht.2 hg, h.2.grown hg h.1.base (fun k hk => (ht.1.lt k hk).1)⟩

theorem Tabs.alloc {w wx : World} {M : List (Nat × Obj)} {u : Value} {L : List (Nat × ByteArray)} (ht : Tabs w wx M u L) (o : Obj) : Tabs w (wx.alloc o) M u L := ⟨ht.1.alloc o, ht.2⟩
theorem Tabs.alloc1 {w wx : World} {M : List (Nat × Obj)} {u : Value} {L : List (Nat × ByteArray)} (ht : Tabs w wx M u L) (o : Obj) : Tabs w (wx.alloc o) (M ++ [(wx.heap.size, o)]) u L := ⟨ht.1.alloc o, ht.2.more (lt_ne ht.1) o⟩

/-- Another row than the tables grows. -/
theorem Tabs.kept {w wx w' : World} {M : List (Nat × Obj)} {u : Value} {L : List (Nat × ByteArray)} (ht : Tabs w wx M u L) {e m : Nat} {v : Value} {ys : List Value} (hv : wx.ownsRow w.heap.size e 1 v m ys) (he : 29 ≠ e) (hg : wx.grownBy w' v.ownBlock) : Tabs w w' M u L :=
  ⟨ht.1.kept hg (own_ne ht.1 hv he), ht.2⟩

theorem Tabs.grow {w wx w' : World} {M : List (Nat × Obj)} {u v' : Value} {L : List (Nat × ByteArray)} (hM : Holds wx M) (ht : Tabs w wx M u L) (p : Nat × ByteArray) (ho : w'.ownsRow w.heap.size 29 1 v' (L.length + 1) ((L.map fun p => ptr p.1) ++ [ptr p.1])) (hat : v'.ownBlock = u.ownBlock ∨ v'.ownBlock = some wx.heap.size) : Tabs w w' M v' (L ++ [p]) :=
  ⟨by simpa using ho, ap_at hM ht.2 hat⟩
theorem St.lay {w wx : World} {M : List (Nat × Obj)} {s7 s8 s9 : Value} {x0 x1 x2 : List Value} (h : St w wx M s7 s8 s9 x0 x1 x2) (nm : ByteArray) (line : Int) (cn pol : ByteArray) :
    ∃ M', St w (lay4 wx nm line cn pol) M' s7 s8 s9 x0 x1 x2 ∧ (∀ x ∈ M, x ∈ M') ∧ IsTab M' (wx.heap.size + 3) nm line cn wx.heap.size pol ∧ ∀ u L, Tabs w wx M u L → Tabs w (lay4 wx nm line cn pol) M' u L := by
  have h4 := (((h.alloc (chainO cn pol)).alloc (chainO sOUT sACC)).alloc (pairO (wx.heap.size + 1) wx.heap.size)).alloc (tabO nm line (wx.heap.size + 2))
  refine ⟨_, h4, fun x hx => by simp [hx], ⟨wx.heap.size + 2, wx.heap.size + 1, ?_, ?_, ?_, ?_⟩, fun u L ht => (((ht.alloc1 _).alloc1 _).alloc1 _).alloc1 _⟩ <;> simp

/-- The row of the tables joins the listed blocks; the ruleset that holds it too. -/
theorem St.close {w wx : World} {M : List (Nat × Obj)} {s7 s8 s9 : Value} {x0 x1 x2 : List Value} (h : St w wx M s7 s8 s9 x0 x1 x2) {g cap : Nat} {L : List (Nat × ByteArray)} (ht : Tabs w wx M (.slice (some ⟨g, 0, none⟩) L.length cap) L) :
    ∃ M', St w (wx.alloc (setO g L.length cap)) M' s7 s8 s9 x0 x1 x2 ∧ (∀ x ∈ M, x ∈ M') ∧ IsSet M' wx.heap.size L := by
  rcases ht.1.2 with ⟨e, _⟩ | ⟨g', cap', cur, e, hg, hh, hle, _, _, htk⟩
  · cases e
  · simp at e
    obtain ⟨rfl, rfl⟩ := e
    have ne : ∀ {e n : Nat} {v : Value} {xs : List Value}, wx.ownsRow w.heap.size e 1 v n xs → e ≠ 29 → v.ownBlock ≠ some g := fun ho he h1 => by
      rcases own_ne ho ht.1 he with h2 | h2
      · rw [h1] at h2; cases h2
      · exact h2 h1
    have hj : St w wx (M ++ [(g, .cells cur 29 (0, 0))]) s7 s8 s9 x0 x1 x2 := ⟨h.1.join hh (ne h.1.o0 (by decide)) (ne h.1.o1 (by decide)) (ne h.1.o2 (by decide)), h.2⟩
    refine ⟨_, hj.alloc (setO g L.length cap), fun x hx => by simp [hx], g, cap, cur, by simp, by simp, fun j p hp => ?_⟩
    have hlt : j < L.length := (List.getElem?_eq_some_iff.1 hp).1
    have h1 : (cur.toList.take (L.length * 1))[j]? = some (ptr p.1) := by rw [htk]; simp [hp]
    rw [List.getElem?_take_of_lt (by omega)] at h1
    simpa using h1

section
variable {w wx : World} {M : List (Nat × Obj)} {s7 s8 s9 : Value} {x0 x1 x2 : List Value}
theorem St.no1 (h : St w wx M s7 s8 s9 x0 x1 x2) {b : Bool} (p : Value) (hb : b = false) : St w wx M s7 s8 s9 x0 (x1 ++ if b then [p] else []) x2 := by subst hb; simpa using h
theorem St.yes1 {p : Value} (h : St w wx M s7 s8 s9 x0 (x1 ++ [p]) x2) {b : Bool} (hb : b = true) : St w wx M s7 s8 s9 x0 (x1 ++ if b then [p] else []) x2 := by subst hb; simpa using h
theorem St.no2 (h : St w wx M s7 s8 s9 x0 x1 x2) {b : Bool} (p : Value) (hb : b = false) : St w wx M s7 s8 s9 x0 x1 (x2 ++ if b then [p] else []) := by subst hb; simpa using h
theorem St.yes2 {p : Value} (h : St w wx M s7 s8 s9 x0 x1 (x2 ++ [p])) {b : Bool} (hb : b = true) : St w wx M s7 s8 s9 x0 x1 (x2 ++ if b then [p] else []) := by subst hb; simpa using h
end

/-! ### Behind the loop -/
def chO (c : UInt8) : Obj := .cells #[.string ⟨#[c]⟩, .int .i64 0, .string ⟨#[]⟩, .slice none 0 0] 28 (0, 0)
/-- The world in which loopedBack is called. -/
def Wx (wr : World) (v7 : Value) (out ao : ByteArray) : World :=
  (((((((wr.alloc (.cells #[v7, .int .u8 0, .map none, .map none, .pointer none] 44 (0, 0))).alloc (chO 70)).alloc (.cells #[ptr (wr.heap.size + 1)] 25 (0, 0))).alloc (chO 65)).alloc (.cells #[ptr (wr.heap.size + 3)] 25 (0, 0))).alloc (chO 66)).alloc (.cells #[ptr (wr.heap.size + 5)] 25 (0, 0))).alloc
    (.cells #[sl (wr.heap.size + 2), sl (wr.heap.size + 4), sl (wr.heap.size + 6), .string out, .string ao] 46 (0, 0))

theorem wx_size (wr : World) (v7 : Value) (out ao : ByteArray) : (Wx wr v7 out ao).heap.size = wr.heap.size + 8 := by simp [Wx]

theorem wx_facts (wr : World) (v7 : Value) (out ao : ByteArray) : Below wr.heap.size wr (Wx wr v7 out ao) ∧ (Wx wr v7 out ao).cell? ⟨wr.heap.size, 0, none⟩ = some v7 ∧ (Wx wr v7 out ao).cell? ⟨wr.heap.size, 4, none⟩ = some (.pointer none) ∧
    (Wx wr v7 out ao).cell? ⟨wr.heap.size + 2, 0, none⟩ = some (ptr (wr.heap.size + 1)) ∧ (Wx wr v7 out ao).cell? ⟨wr.heap.size + 4, 0, none⟩ = some (ptr (wr.heap.size + 3)) ∧ (Wx wr v7 out ao).cell? ⟨wr.heap.size + 6, 0, none⟩ = some (ptr (wr.heap.size + 5)) := by
  have nw : ∀ (w : World) (c : Array Value) (T N j : Nat), N = w.heap.size → (w.alloc (.cells c T (0, 0))).cell? ⟨N, j, none⟩ = c[j]? := fun w c T N j h => by subst h; exact blk_cell (heap_alloc_new w _) j
  have old : ∀ (w : World) (o : Obj) (N j : Nat), N < w.heap.size → (w.alloc o).cell? ⟨N, j, none⟩ = w.cell? ⟨N, j, none⟩ := fun w o N j h => World.cell?_of_block (w := w) (Below.heap_alloc w o N h)
  refine ⟨?_, ?_, ?_, ?_, ?_, ?_⟩
  · unfold Wx chO
    exact ((((((((Below.refl _ wr).alloc (by simp) _).alloc (by simp) _).alloc (by simp; omega) _).alloc (by simp; omega) _).alloc (by simp; omega) _).alloc (by simp; omega) _).alloc (by simp; omega) _).alloc (by simp; omega) _
  · unfold Wx chO
    rw [old _ _ _ _ (by simp; omega), old _ _ _ _ (by simp; omega), old _ _ _ _ (by simp; omega), old _ _ _ _ (by simp; omega), old _ _ _ _ (by simp; omega), old _ _ _ _ (by simp; omega), old _ _ _ _ (by simp), nw _ _ _ _ _ (by simp)]; rfl
  · unfold Wx chO
    rw [old _ _ _ _ (by simp; omega), old _ _ _ _ (by simp; omega), old _ _ _ _ (by simp; omega), old _ _ _ _ (by simp; omega), old _ _ _ _ (by simp; omega), old _ _ _ _ (by simp; omega), old _ _ _ _ (by simp), nw _ _ _ _ _ (by simp)]; rfl
  · unfold Wx chO
    rw [old _ _ _ _ (by simp), old _ _ _ _ (by simp), old _ _ _ _ (by simp), old _ _ _ _ (by simp), old _ _ _ _ (by simp), nw _ _ _ _ _ (by simp)]; rfl
  · unfold Wx chO
    rw [old _ _ _ _ (by simp), old _ _ _ _ (by simp), old _ _ _ _ (by simp), nw _ _ _ _ _ (by simp)]; rfl
  · unfold Wx chO
    rw [old _ _ _ _ (by simp), nw _ _ _ _ _ (by simp)]; rfl

theorem dn {W : World} {m : Nat} {a : Addr} {v : Value} (h : W.cell? a = some v) : (W.drewN m).cell? a = some v := h

theorem same_one (b : Nat) (p : Addr) (W : World) (h : W.cell? ⟨b, 0, none⟩ = some (.pointer (some p))) : Calls Ybaf.prog 5 #[sl b, sl b] W fun e w' => e = .returned (.bool true) ∧ ∃ m, w' = W.drewN m :=
  same_row b b 1 1 1 W (by omega) (fun j hj => by obtain rfl : j = 0 := by omega
                                                  exact ⟨p, h, h⟩)

/-- Two slices that own the same row of pointers. -/
theorem same_own {W : World} {B B' : Nat} {u v : Value} {xs : List Value} (hx : ∀ x ∈ xs, ∃ p, x = .pointer (some p)) (hl : xs.length ≤ 1000) {n : Nat} (hn : n = xs.length) (hu : W.ownsRow B 25 1 u n xs) (hv : W.ownsRow B' 25 1 v n xs) :
    Calls Ybaf.prog 5 #[u, v] W fun e w' => e = .returned (.bool true) ∧ ∃ m, w' = W.drewN m := by
  subst hn
  cases hxs : xs with
  | nil =>
    subst hxs
    obtain ⟨a, c, rfl⟩ := owns_nil hu
    obtain ⟨a', c', rfl⟩ := owns_nil hv
    exact (same_nil a a' c c' W).mono fun e w' ⟨h1, h2⟩ => ⟨h1, 0, h2⟩
  | cons x xs' =>
    have hp : 0 < xs.length := by rw [hxs]; simp
    obtain ⟨g, c, rfl, _, _, _, _, hg, _⟩ := owns_row hu hp
    obtain ⟨g', c', rfl, _, _, _, _, hg', _⟩ := owns_row hv hp
    refine same_row g g' xs.length c c' W hl (fun j hj => ?_)
    obtain ⟨p, hp⟩ := hx xs[j] (List.getElem_mem hj)
    have e : xs[j]? = some (.pointer (some p)) := by rw [List.getElem?_eq_getElem hj, hp]
    exact ⟨p, hg j _ e, hg' j _ e⟩

theorem owns_drewN {W : World} {m B e s n : Nat} {v : Value} {xs : List Value} (h : W.ownsRow B e s v n xs) : (W.drewN m).ownsRow B e s v n xs := h

theorem owns_empty (W : World) (B N : Nat) (hN : N = W.heap.size) (hB : B ≤ W.heap.size) : (W.alloc (.cells #[] 25)).ownsRow B 25 1 (.slice (some ⟨N, 0, none⟩) 0 0) 0 [] := by
  subst hN
  exact ⟨rfl, .inr ⟨W.heap.size, 0, #[], rfl, hB, heap_alloc_new W _, Nat.le_refl _, by simp [maxLen], rfl, rfl⟩⟩

theorem ptrs (ds : List D) : ∀ x ∈ pres ds ++ ins ds, ∃ p, x = .pointer (some p) := by
  intro x hx
  rcases List.mem_append.1 hx with hx | hx
  · simp only [pres, List.mem_map] at hx; obtain ⟨d, _, rfl⟩ := hx; exact ⟨_, rfl⟩
  · simp only [ins, List.mem_map] at hx; obtain ⟨d, _, rfl⟩ := hx; exact ⟨_, rfl⟩

end Go.Proofs.YbulkalbgFmt.Round
