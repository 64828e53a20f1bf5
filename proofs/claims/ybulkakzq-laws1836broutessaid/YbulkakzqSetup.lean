/-
  THE STATE of LawS1836BRoutes while it sets up: what is laid first; the peers; the claims.
-/
import Derived.Test.YbulkakzqNew
namespace Go.Proofs.Ybulkakzq.Setup
open Go.RowKit Wire Blocks Box Votes Names Rd Split New
set_option linter.unusedVariables false

/-- A read of the heap alone stays. -/
def Off (w : World) (x : Nat → Prop) (Ts : List Nat) : Prop := ∀ k c T, x k → w.heap[k]? = some (.cells c T (0, 0)) → T ∉ Ts

theorem off_blk {w w' : World} {x : Nat → Prop} {Ts : List Nat} (hf : Fr w.heap.size x w w') (hx : Off w x Ts) {k T : Nat} {c : Array Value} (hk : w.heap[k]? = some (.cells c T (0, 0))) (hT : T ∈ Ts) : w'.heap[k]? = some (.cells c T (0, 0)) := by
  rw [hf.block k (blk_lt hk) (fun h => hx k c T h hk hT)]; exact hk

structure Base (w wx : World) (gb nb ib : Nat) (o0 o1 o2 o3 : Int) (g0 g1 g2 g3 child : Bool) (s : ByteArray) (a b : Int) : Prop where
  own : wx.heap[w.heap.size]? = some (.cells #[.int .u8 o0, .int .u8 o1, .int .u8 o2, .int .u8 o3] 29 (0, 0))
  gra : wx.heap[w.heap.size + 1]? = some (.cells #[.bool g0, .bool g1, .bool g2, .bool g3] 30 (0, 0))
  nam : wx.heap[w.heap.size + 2]? = some (.cells #[.string ⟨#[97]⟩, .string ⟨#[98]⟩, .string ⟨#[99]⟩, .string ⟨#[100]⟩, .string ⟨#[101]⟩, .string ⟨#[102]⟩] 31 (0, 0))
  pna : wx.heap[w.heap.size + 3]? = some (.cells #[.string ⟨#[112, 48]⟩, .string ⟨#[112, 49]⟩, .string ⟨#[112, 50]⟩] 32 (0, 0))
  idb : wx.heap[ib]? = some (.cells #[.string s, .int .u64 a, .int .u64 b] 41 (0, 0))
  grp : ∃ c, wx.heap[gb]? = some (.cells c 109 (0, 0)) ∧ c[11]? = some (.map (some nb)) ∧ c[3]? = some (.bool (!child))
  low : Below w.heap.size w wx

section
variable {w wx wy : World} {gb nb ib : Nat} {o0 o1 o2 o3 : Int} {g0 g1 g2 g3 child : Bool} {s : ByteArray} {a b : Int} {x : Nat → Prop}

theorem Base.fr (h : Base w wx gb nb ib o0 o1 o2 o3 g0 g1 g2 g3 child s a b) (hf : Fr wx.heap.size x wx wy) (hx : Off wx x [29, 30, 31, 32, 41, 109]) (hl : ∀ k, x k → w.heap.size ≤ k) : Base w wy gb nb ib o0 o1 o2 o3 g0 g1 g2 g3 child s a b :=
  ⟨off_blk hf hx h.own (by decide), off_blk hf hx h.gra (by decide), off_blk hf hx h.nam (by decide), off_blk hf hx h.pna (by decide), off_blk hf hx h.idb (by decide),
   by obtain ⟨c, h1, h2⟩ := h.grp; exact ⟨c, off_blk hf hx h1 (by decide), h2⟩,
   h.low.trans (hf.below h.low.size (fun k hk h' => by have := hl k h'; omega))⟩
theorem off_no (w : World) (Ts : List Nat) : Off w (fun _ => False) Ts := fun _ _ _ h => h.elim
theorem off_map {w : World} {m : Nat} {es : Array MapEntry} {cl : Nat} (h : w.heap[m]? = some (.map es cl)) (Ts : List Nat) : Off w (fun k => k = m) Ts := fun k c T e hk => by subst e; rw [h] at hk; cases hk
theorem off_type {w : World} {m T : Nat} {c : Array Value} (h : w.heap[m]? = some (.cells c T (0, 0))) {Ts : List Nat} (hT : T ∉ Ts) : Off w (fun k => k = m) Ts := fun k c' T' e hk => by subst e; rw [h] at hk; simp at hk; rw [← hk.2]; exact hT
theorem Base.quiet (h : Base w wx gb nb ib o0 o1 o2 o3 g0 g1 g2 g3 child s a b) (hf : Fr wx.heap.size (fun _ => False) wx wy) : Base w wy gb nb ib o0 o1 o2 o3 g0 g1 g2 g3 child s a b := h.fr hf (off_no _ _) (fun _ h => h.elim)
theorem Base.below (h : Base w wx gb nb ib o0 o1 o2 o3 g0 g1 g2 g3 child s a b) (hf : Below wx.heap.size wx wy) : Base w wy gb nb ib o0 o1 o2 o3 g0 g1 g2 g3 child s a b := h.quiet (Fr.of_below hf)
end

/-! ### The peers -/
def pAt (P : Nat → Nat) (i k : Nat) : Value := if k < i then .pointer (some ⟨P k, 0, none⟩) else .pointer none
def parr (P : Nat → Nat) (i : Nat) : Array Value := #[pAt P i 0, pAt P i 1, pAt P i 2]

structure Su (wx : World) (pb lb i : Nat) (P X M : Nat → Nat) (s : ByteArray) (a b : Int) : Prop where
  pe : ∀ k, k < i → PeerAt wx (P k) (X k) (M k) lb k
  um : ∀ k, k < i → UM wx (M k) s a b six
  pinj : ∀ k k', k < i → k' < i → P k = P k' → k = k'
  minj : ∀ k k', k < i → k' < i → M k = M k' → k = k'
  blk : wx.heap[pb]? = some (.cells (parr P i) 43 (0, 0))
  lo : ∀ k, k < i → pb ≤ M k

section
variable {wx wy : World} {pb lb i : Nat} {P X M : Nat → Nat} {s : ByteArray} {a b : Int} {x : Nat → Prop}

theorem um_not_cells {m : Nat} {S : List ByteArray} (h : UM wx m s a b S) {c : Array Value} {T : Nat} (hk : wx.heap[m]? = some (.cells c T (0, 0))) : False := by
  obtain ⟨es, cl, h1, _⟩ := h
  rw [h1] at hk
  cases hk

theorem Su.fr (h : Su wx pb lb i P X M s a b) (hf : Fr wx.heap.size x wx wy) (hx : Off wx x [39, 43, 71]) (hm : ∀ k, k < i → ¬ x (M k)) : Su wy pb lb i P X M s a b := by
  refine ⟨fun k hk => ?_, fun k hk => (h.um k hk).block (hf.block _ (h.um k hk).lt (hm k hk)), h.pinj, h.minj, off_blk hf hx h.blk (by decide), h.lo⟩
  have hp := h.pe k hk
  obtain ⟨c, hc, r⟩ := hp.link
  exact ⟨⟨c, off_blk hf hx hc (by decide), r⟩, off_blk hf hx hp.box (by decide)⟩
theorem Su.quiet (h : Su wx pb lb i P X M s a b) (hf : Fr wx.heap.size (fun _ => False) wx wy) : Su wy pb lb i P X M s a b := h.fr hf (off_no _ _) (fun _ _ h => h)

/-- One peer more. -/
theorem Su.more (h : Su wx pb lb i P X M s a b) (hi : i < 3) {p xb m : Nat} (hpe : PeerAt wx p xb m lb i) (hum : UM wx m s a b six) (hp : ∀ k, k < i → P k ≠ p) (hm : ∀ k, k < i → M k ≠ m) (hlo : pb ≤ m) :
    Su (wx.setCell ⟨pb, i, none⟩ (.pointer (some ⟨p, 0, none⟩))) pb lb (i + 1) (fun k => if k = i then p else P k) (fun k => if k = i then xb else X k) (fun k => if k = i then m else M k) s a b := by
  have hf : Fr wx.heap.size (fun k => k = pb) wx (wx.setCell ⟨pb, i, none⟩ (.pointer (some ⟨p, 0, none⟩))) := (Fr.refl _ (fun k => k = pb) wx).setCell (p := ⟨pb, i, none⟩) (.inr rfl) _
  have hoff : Off wx (fun k => k = pb) [39, 71] := off_type h.blk (by decide)
  have keep : ∀ {q xq mq k : Nat}, PeerAt wx q xq mq lb k → PeerAt (wx.setCell ⟨pb, i, none⟩ (.pointer (some ⟨p, 0, none⟩))) q xq mq lb k := fun hp => by
    obtain ⟨c, hc, r⟩ := hp.link
    exact ⟨⟨c, off_blk hf hoff hc (by decide), r⟩, off_blk hf hoff hp.box (by decide)⟩
  have keepM : ∀ {mq : Nat}, UM wx mq s a b six → UM (wx.setCell ⟨pb, i, none⟩ (.pointer (some ⟨p, 0, none⟩))) mq s a b six := fun {mq} hu => hu.block (hf.block _ hu.lt (fun e => by
    have e : mq = pb := e
    subst e; exact um_not_cells hu h.blk))
  refine ⟨fun k hk => ?_, fun k hk => ?_, fun k k' hk hk' e => ?_, fun k k' hk hk' e => ?_, ?_, fun k hk => ?_⟩
  · by_cases e : k = i
    · subst e; simpa using keep hpe
    · simp only [e, if_false]; exact keep (h.pe k (by omega))
  · by_cases e : k = i
    · subst e; simpa using keepM hum
    · simp only [e, if_false]; exact keepM (h.um k (by omega))
  · by_cases e1 : k = i <;> by_cases e2 : k' = i
    · omega
    · simp only [e1, e2, if_true, if_false] at e; exact absurd e.symm (hp k' (by omega))
    · simp only [e1, e2, if_true, if_false] at e; exact absurd e (hp k (by omega))
    · simp only [e1, e2, if_false] at e; exact h.pinj k k' (by omega) (by omega) e
  · by_cases e1 : k = i <;> by_cases e2 : k' = i
    · omega
    · simp only [e1, e2, if_true, if_false] at e; exact absurd e.symm (hm k' (by omega))
    · simp only [e1, e2, if_true, if_false] at e; exact absurd e (hm k (by omega))
    · simp only [e1, e2, if_false] at e; exact h.minj k k' (by omega) (by omega) e
  · have := blk_set h.blk i (.pointer (some ⟨p, 0, none⟩))
    rw [this]
    have : i = 0 ∨ i = 1 ∨ i = 2 := by omega
    rcases this with rfl | rfl | rfl <;> simp [parr, pAt]
  · by_cases e : k = i
    · subst e; simpa using hlo
    · simp only [e, if_false]; exact h.lo k (by omega)
end

theorem nameAt_not (j : Nat) (hj : j < 6) : nameAt j ∉ six.take j := by
  have : j = 0 ∨ j = 1 ∨ j = 2 ∨ j = 3 ∨ j = 4 ∨ j = 5 := by omega
  rcases this with rfl | rfl | rfl | rfl | rfl | rfl <;> simp [nameAt, six]
theorem six_take (j : Nat) (hj : j < 6) : six.take (j + 1) = six.take j ++ [nameAt j] := by
  have : j = 0 ∨ j = 1 ∨ j = 2 ∨ j = 3 ∨ j = 4 ∨ j = 5 := by omega
  rcases this with rfl | rfl | rfl | rfl | rfl | rfl <;> rfl
theorem name_cell (j : Nat) (hj : j < 6) : (#[Value.string ⟨#[97]⟩, .string ⟨#[98]⟩, .string ⟨#[99]⟩, .string ⟨#[100]⟩, .string ⟨#[101]⟩, .string ⟨#[102]⟩])[j]? = some (.string (nameAt j)) := by
  have : j = 0 ∨ j = 1 ∨ j = 2 ∨ j = 3 ∨ j = 4 ∨ j = 5 := by omega
  rcases this with rfl | rfl | rfl | rfl | rfl | rfl <;> rfl
theorem pname_cell (j : Nat) (hj : j < 3) : ∃ v, (#[Value.string ⟨#[112, 48]⟩, .string ⟨#[112, 49]⟩, .string ⟨#[112, 50]⟩])[j]? = some (.string v) := by
  have : j = 0 ∨ j = 1 ∨ j = 2 := by omega
  rcases this with rfl | rfl | rfl <;> exact ⟨_, rfl⟩

def peerO (pn : ByteArray) (i xb : Nat) (mv : Value) : Obj := .cells #[.string pn, .map none, .bool false, .bool false, .bool false, .int .u64 0, .bool false, .int .u64 0, .int .u64 0, .int .u64 0, .bool false, .bool (decide (0 < i)), .bool ((i : Int) == 2), .iface 36 (.pointer (some ⟨xb, 0, none⟩)), .int .u64 0, .slice none 0 0, .int .i64 0, .int .i64 0, mv, .map none, .map none, .int .i64 0, .int .i64 0, .int .i64 0, .int .i64 0, .slice none 0 0, .map none, .int .u64 0, .map none, .map none, .bool false, .int .i64 0, .bool false, .map none] 71 (0, 0)

theorem peer_cell (W : World) (pn : ByteArray) (i xb N : Nat) (hN : N = W.heap.size) : (W.alloc (peerO pn i xb (.map none))).cell? ⟨N, 18, none⟩ = some (.map none) ∧ (W.alloc (peerO pn i xb (.map none))).frozen? ⟨N, 18, none⟩ = false := by
  have hp : (W.alloc (peerO pn i xb (.map none))).heap[N]? = some (peerO pn i xb (.map none)) := new_at hN
  exact ⟨(blk_cell (T := 71) hp 18).trans rfl, blk_free (T := 71) hp 18⟩

/-- A peer is laid, and its map. -/
theorem peer_made (wr : World) (pn : ByteArray) (i lb : Nat) (s : ByteArray) (a b : Int) :
    let W2 := ((((wr.alloc (boxO i lb)).alloc (peerO pn i wr.heap.size (.map none))).setCell ⟨wr.heap.size + 1, 18, none⟩ (.map (some (wr.heap.size + 2)))).alloc (.map #[] 0))
    PeerAt W2 (wr.heap.size + 1) wr.heap.size (wr.heap.size + 2) lb i ∧ UM W2 (wr.heap.size + 2) s a b [] ∧ Below wr.heap.size wr W2 := by
  intro W2
  have hp : ((wr.alloc (boxO i lb)).alloc (peerO pn i wr.heap.size (.map none))).heap[wr.heap.size + 1]? = some (peerO pn i wr.heap.size (.map none)) := new_at (by simp)
  have hx : ((wr.alloc (boxO i lb)).alloc (peerO pn i wr.heap.size (.map none))).heap[wr.heap.size]? = some (boxO i lb) := blk_alloc (new_at rfl)
  refine ⟨⟨⟨_, blk_alloc (blk_set hp 18 (.map (some (wr.heap.size + 2)))), by simp, by simp, by simp⟩, blk_alloc (by rw [blk_set_other (by show wr.heap.size ≠ wr.heap.size + 1; omega)]; exact hx)⟩, ⟨#[], 0, new_at (by simp), rfl, by simp⟩, ?_⟩
  have h0 := (Below.refl _ wr).alloc (Nat.le_refl _) (boxO i lb)
  have h1 := h0.alloc h0.size (peerO pn i wr.heap.size (.map none))
  have h2 := h1.setCell (p := ⟨wr.heap.size + 1, 18, none⟩) (by show wr.heap.size ≤ wr.heap.size + 1; omega) (.map (some (wr.heap.size + 2)))
  exact h2.alloc h2.size _

/-! ### The claims -/
def oN (q0 q1 q2 q3 : Nat) (i : Nat) : Nat := [q0, q1, q2, q3].getD i 0
def gN (g0 g1 g2 g3 : Bool) (i : Nat) : Bool := [g0, g1, g2, g3].getD i false
theorem own_cell (q0 q1 q2 q3 : Nat) (i : Nat) (hi : i < 4) : (#[Value.int .u8 q0, .int .u8 q1, .int .u8 q2, .int .u8 q3])[i]? = some (.int .u8 (oN q0 q1 q2 q3 i)) := by
  have : i = 0 ∨ i = 1 ∨ i = 2 ∨ i = 3 := by omega
  rcases this with rfl | rfl | rfl | rfl <;> rfl
theorem gra_cell (g0 g1 g2 g3 : Bool) (i : Nat) (hi : i < 4) : (#[Value.bool g0, .bool g1, .bool g2, .bool g3])[i]? = some (.bool (gN g0 g1 g2 g3 i)) := by
  have : i = 0 ∨ i = 1 ∨ i = 2 ∨ i = 3 := by omega
  rcases this with rfl | rfl | rfl | rfl <;> rfl
theorem oN_le {q0 q1 q2 q3 : Nat} (h0 : q0 ≤ 255) (h1 : q1 ≤ 255) (h2 : q2 ≤ 255) (h3 : q3 ≤ 255) (i : Nat) : oN q0 q1 q2 q3 i ≤ 255 := by
  match i with
  | 0 => exact h0
  | 1 => exact h1
  | 2 => exact h2
  | 3 => exact h3
  | i + 4 => simp [oN]
theorem parr_cell (P : Nat → Nat) (k : Nat) (hk : k < 3) : (parr P 3)[k]? = some (.pointer (some ⟨P k, 0, none⟩)) := by
  have : k = 0 ∨ k = 1 ∨ k = 2 := by omega
  rcases this with rfl | rfl | rfl <;> rfl
theorem nameAt_inj {i j : Nat} (hi : i < 6) (hj : j < 6) (h : nameAt i = nameAt j) : i = j := by
  have a : i = 0 ∨ i = 1 ∨ i = 2 ∨ i = 3 ∨ i = 4 ∨ i = 5 := by omega
  have b : j = 0 ∨ j = 1 ∨ j = 2 ∨ j = 3 ∨ j = 4 ∨ j = 5 := by omega
  rcases a with rfl | rfl | rfl | rfl | rfl | rfl <;> rcases b with rfl | rfl | rfl | rfl | rfl | rfl <;> simp [nameAt, six] at h ⊢

def claimL (i : Nat) (C : Nat → Nat) : List (ByteArray × Value) := (List.range i).map fun k => (nameAt k, .pointer (some ⟨C k, 0, none⟩))
theorem claimL_ne {i : Nat} (hi : i < 6) (C : Nat → Nat) : ∀ p ∈ claimL i C, p.1 ≠ nameAt i := by
  intro p hp e
  obtain ⟨k, hk, rfl⟩ := List.mem_map.1 hp
  have hk := List.mem_range.1 hk
  have := nameAt_inj (by omega) hi e
  omega
def claimO (p : Nat) (gr : Bool) : Obj := .cells #[.pointer (some ⟨p, 0, none⟩), .string ⟨#[]⟩, .map none, .bool false, .bool false, .bool false, .int .u64 0, .bool false, .int .u64 0, .int .u64 0, .int .u64 0, .bool false, .bool gr, .int .i64 0, .map none, .bool false, .int .u64 0, .int .u64 0, .int .u64 0, .pointer none, .map none, .bool false, .bool false, .int .u64 0] 81 (0, 0)

structure Cl (wx : World) (nb i : Nat) (C P ow : Nat → Nat) (gr : Nat → Bool) : Prop where
  sm : SM wx nb (claimL i C)
  cl : ∀ k, k < i → wx.heap[C k]? = some (claimO (P (ow k)) (gr k))

section
variable {wx wy w' : World} {nb i : Nat} {C P ow : Nat → Nat} {gr : Nat → Bool} {x : Nat → Prop}
theorem Cl.fr (h : Cl wx nb i C P ow gr) (hf : Fr wx.heap.size x wx wy) (hx : Off wx x [81]) (hn : ¬ x nb) : Cl wy nb i C P ow gr :=
  ⟨h.sm.block (hf.block _ h.sm.lt hn), fun k hk => off_blk hf hx (h.cl k hk) (by decide)⟩
theorem Cl.more (h : Cl wx nb i C P ow gr) (hsm : SM w' nb (claimL i C ++ [(nameAt i, .pointer (some ⟨wx.heap.size, 0, none⟩))])) (hg : (wx.alloc (claimO (P (ow i)) (gr i))).grownBy w' (some nb)) :
    Cl w' nb (i + 1) (fun k => if k = i then wx.heap.size else C k) P ow gr := by
  have hlt := h.sm.lt
  have hnm : ∀ {b : Nat} {c : Array Value} {T : Nat}, wx.heap[b]? = some (.cells c T (0, 0)) → b ≠ nb := fun hb e => by
    obtain ⟨es, cl, h1, _⟩ := h.sm
    rw [e, h1] at hb
    cases hb
  refine ⟨?_, fun k hk => ?_⟩
  · have e : claimL (i + 1) (fun k => if k = i then wx.heap.size else C k) = claimL i C ++ [(nameAt i, .pointer (some ⟨wx.heap.size, 0, none⟩))] := by
      simp only [claimL, List.range_succ, List.map_append, List.map_cons, List.map_nil, if_true]
      congr 1
      apply List.map_congr_left
      intro k hk
      have := List.mem_range.1 hk
      rw [if_neg (by omega)]
    rw [e]; exact hsm
  · by_cases e : k = i
    · subst e
      simp only [if_true]
      rw [hg.block _ (by simp) (fun e => by have := Option.some.inj e; omega)]
      exact new_at rfl
    · simp only [e, if_false]
      have hc := h.cl k (by omega)
      rw [hg.block _ (by have := blk_lt hc; simp; omega) (fun e => hnm hc (Option.some.inj e))]
      exact blk_alloc hc
end

theorem um_sm_ne {w : World} {m nb : Nat} {s : ByteArray} {a b : Int} {L : List (ByteArray × Value)} (h : UM w m s a b six) (hs : SM w nb L) : m ≠ nb := by
  rintro rfl
  obtain ⟨es, cl, h1, h2, _⟩ := h
  obtain ⟨es', cl', h1', h2'⟩ := hs
  rw [h1] at h1'
  cases h1'
  have e2 := congrArg (List.map Prod.fst) h2'
  simp only [List.map_map] at e2
  have e3 : es.toList.map (·.key) = L.map (fun p => Value.string p.1) := by simpa [Function.comp_def] using e2
  rw [h2] at e3
  cases L with
  | nil => simp [six] at e3
  | cons p L => simp [six, kv] at e3
end Go.Proofs.Ybulkakzq.Setup
