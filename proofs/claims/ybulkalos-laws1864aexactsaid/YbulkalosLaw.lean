/-
  LawS1864AExact: the walk.
-/
import Derived.Test.YbulkalosRows
import Derived.Test.YbulkalosBlocks
import Derived.Deep.QuietTactic
import Derived.BigQuiet
namespace Go.Proofs.Ybulkalos.Law
open Go.RowKit Blocks
set_option linter.unusedVariables false
set_option maxRecDepth 100000

theorem info27 : (Yba.prog.info? 27).map (fun i => (i.zero, i.size, i.bytes)) = some (some (.agg #[.int .i64 0, .int .i64 0, .int .i32 0, .int .i32 0]), 4, 24) := by kernel_rfl

set_option maxHeartbeats 1000000 in
theorem span_none (hb : Nat) (ao : Option Addr) (c : Nat) (w : World) (h0 : w.cell? ⟨hb, 0, none⟩ = some (.slice ao 0 c)) :
    Calls Yba.prog 4 #[.pointer (some ⟨hb, 0, none⟩)] w fun e w' => e = .returned (.tuple #[.int .i32 0, .int .i32 0, .bool false]) ∧ w' = w := by
  go_enter Yba.func4, Yba.ntmps4
  go_wp2
  go_ret3
  exact ⟨rfl, rfl⟩

set_option maxHeartbeats 1000000 in
theorem span_some (hb eb m c : Nat) (f l : Int) (w : World) (hm : m ≤ 1024) (h0 : w.cell? ⟨hb, 0, none⟩ = some (.slice (some ⟨eb, 0, none⟩) (m + 1) c)) (h1 : w.cell? ⟨eb, 2, none⟩ = some (.int .i32 f)) (h2 : w.cell? ⟨eb, m * 4 + 2, none⟩ = some (.int .i32 l)) :
    Calls Yba.prog 4 #[.pointer (some ⟨hb, 0, none⟩)] w fun e w' => e = .returned (.tuple #[.int .i32 f, .int .i32 l, .bool true]) ∧ ∃ n, w' = w.drewN n := by
  have hne : (((m + 1 : Nat) : Int) == 0) = false := by simp; omega
  have hpos : (0 : Int) < ((m + 1 : Nat) : Int) := by omega
  go_enter Yba.func4, Yba.ntmps4
  go_wp2
  go_quiet (fail)
  go_wp2
  go_ret3
  exact ⟨rfl, _, rfl⟩

theorem set4_get (c : Array Value) (i j : Nat) (a b d e : Value) (hi : i * 4 + 3 < c.size) (hj : j < i) : ((((c.setIfInBounds (i * 4) a).setIfInBounds (i * 4 + 1) b).setIfInBounds (i * 4 + 2) d).setIfInBounds (i * 4 + 3) e)[j * 4 + 2]? = c[j * 4 + 2]? := by
  simp only [Array.getElem?_setIfInBounds]
  rw [if_neg (by omega), if_neg (by omega), if_neg (by omega), if_neg (by omega)]
theorem set4_new (c : Array Value) (i : Nat) (a b d e : Value) (hi : i * 4 + 3 < c.size) : ((((c.setIfInBounds (i * 4) a).setIfInBounds (i * 4 + 1) b).setIfInBounds (i * 4 + 2) d).setIfInBounds (i * 4 + 3) e)[i * 4 + 2]? = some d := by
  simp only [Array.getElem?_setIfInBounds]
  rw [if_neg (by omega)]
  simp
  omega

set_option maxHeartbeats 1000000 in
theorem walk_short (a0 : Option Addr) (len cap : Nat) (zs : List Int) (w : World) (hlen : len ≤ 1024) (hz : len ≤ zs.length)
    (hc : ∀ i, i < len → ∃ b off, a0 = some ⟨b, off, none⟩ ∧ b < w.heap.size ∧ w.cell? ⟨b, off + i, none⟩ = some (.int .i32 (zs.getD i 0))) :
    Calls Yba.prog 3 #[.slice a0 len cap] w fun e w' => e = .returned (.bool true) ∧ Below w.heap.size w w' := by
  obtain ⟨i0, hi, hz0, hz1, hz2⟩ := info_parts info27
  have HC : Hid (∀ i, i < len → ∃ b off, a0 = some ⟨b, off, none⟩ ∧ b < w.heap.size ∧ w.cell? ⟨b, off + i, none⟩ = some (.int .i32 (zs.getD i 0))) := hc
  have hlen' : (len : Int) ≤ 1024 := by omega
  clear hc
  go_enter Yba.func3, Yba.ntmps3
  go_wp2_with (at_make; refine wpList_make_full _ rfl (.tmp 14) (.tmp 14) 23 rfl w.heap.size 27 i0 (.agg #[.int .i64 0, .int .i64 0, .int .i32 0, .int .i32 0]) 4 Yba.underlying23 hi hz0 hz1 _ _ _ _ len rfl rfl ?m0 ?m1 ?m2 ?m3 ?m4 ?_)
  case m0 => rfl
  case m1 => rfl
  case m2 => rw [hz2]; omega
  case m3 => unfold maxLen; omega
  case m4 => exact Nat.le_refl _
  intro w1 hown1 hgr1
  have hb1 : Below w.heap.size w w1 := (Below.refl _ _).grown hgr1 (Nat.le_refl _) (fun k hk => by simp at hk)
  obtain ⟨cur0, hcur0, hsz0⟩ : ∃ cur, w1.heap[w.heap.size]? = some (.cells cur 27 (0, 0)) ∧ cur.size = len * 4 := by
    rcases hown1.2 with ⟨h, _⟩ | ⟨g, cap', cur, h, _, hg, _, _, hs, _⟩
    · simp at h
    · simp at h
      obtain ⟨rfl, rfl⟩ := h
      exact ⟨cur, hg, hs⟩
  have HC0 : Hid (w1.heap[w.heap.size]? = some (.cells cur0 27 (0, 0)) ∧ cur0.size = len * 4) := ⟨hcur0, hsz0⟩
  clear hown1 hgr1 hcur0 hsz0
  go_wp2_with fail
  go_loopw [18] (fun i wr => ∃ (k : Nat) (cur : Array Value), k ≤ len ∧ i = .int .i64 k ∧ Hid (wr.heap[w.heap.size]? = some (.cells cur 27 (0, 0)) ∧ cur.size = len * 4) ∧ Hid (∀ j, j < k → cur[j * 4 + 2]? = some (.int .i32 (zs.getD j 0))) ∧ Below w.heap.size w wr) (fun i _ => len - (intOf i).toNat)
  case atStart => exact ⟨0, cur0, Nat.zero_le _, rfl, HC0, fun j hj => by omega, hb1⟩
  case round =>
    obtain ⟨k, cur, hk, rfl, HCr, HJ, hbr⟩ := hrel
    by_cases hlt : k < len
    · obtain ⟨b, off, ha0, hbl, hcell⟩ := HC.out k hlt
      subst ha0
      obtain ⟨z, hz1⟩ : ∃ z, z = zs.getD k 0 := ⟨_, rfl⟩
      have hcr : wr.cell? ⟨b, off + k, none⟩ = some (.int .i32 z) := by rw [hbr.cell (p := ⟨b, off + k, none⟩) hbl, hz1]; exact hcell
      have HZ : Hid (z = zs.getD k 0) := hz1
      have hlt' : (k : Int) < (len : Int) := by omega
      have hin : k * 4 + 3 < cur.size := by rw [HCr.out.2]; omega
      have hx : ∀ j, j < 4 → ∃ v, wr.cell? ⟨w.heap.size, k * 4 + j, none⟩ = some v := fun j hj => ⟨cur[k * 4 + j]'(by omega), by rw [blk_cell HCr.out.1]; exact Array.getElem?_eq_getElem _⟩
      obtain ⟨v0, y0⟩ := hx 0 (by omega)
      obtain ⟨v1, y1⟩ := hx 1 (by omega)
      obtain ⟨v2, y2⟩ := hx 2 (by omega)
      obtain ⟨v3, y3⟩ := hx 3 (by omega)
      have hfz : ∀ j, wr.frozen? ⟨w.heap.size, j, none⟩ = false := blk_free HCr.out.1
      rw [Nat.add_zero] at y0
      clear hcell hz1 hx
      go_wp2_with fail
      go_roundw
      case rel =>
        refine ⟨k + 1, _, by omega, by go_num, ⟨blk_set (blk_set (blk_set (blk_set HCr.out.1 _ _) _ _) _ _) _ _, ?_⟩, ?_, ?_⟩
        · simp [HCr.out.2]
        · intro j hj
          by_cases hjk : j < k
          · rw [set4_get cur k j _ _ _ _ hin hjk]; exact HJ.out j hjk
          · obtain rfl : j = k := by omega
            rw [set4_new cur j _ _ _ _ hin, HZ.out]
        · exact (((hbr.setCell (p := ⟨w.heap.size, k * 4, none⟩) (Nat.le_refl _) _).setCell (p := ⟨w.heap.size, k * 4 + 1, none⟩) (Nat.le_refl _) _).setCell (p := ⟨w.heap.size, k * 4 + 2, none⟩) (Nat.le_refl _) _).setCell (p := ⟨w.heap.size, k * 4 + 3, none⟩) (Nat.le_refl _) _
      case measure => simp [intOf]; omega
    · obtain rfl : k = len := by omega
      have hsr := hbr.size
      by_cases h0 : k = 0
      · subst h0
        go_wp2_with fail
        refine (span_none wr.heap.size (some ⟨w.heap.size, 0, none⟩) 0 _ (by simp)).mono ?_
        rintro e w' ⟨rfl, rfl⟩
        go_wp2_with fail
        go_ret
        exact ⟨rfl, hbr.alloc hsr _⟩
      · obtain ⟨m, rfl⟩ : ∃ m, k = m + 1 := ⟨k - 1, by omega⟩
        obtain ⟨b, off, ha0, hbl, hcell⟩ := HC.out 0 (by omega)
        obtain ⟨b2, off2, ha2, _, hcell2⟩ := HC.out m (by omega)
        subst ha0
        simp at ha2
        obtain ⟨rfl, rfl⟩ := ha2
        obtain ⟨f, hf⟩ : ∃ f, f = zs.getD 0 0 := ⟨_, rfl⟩
        obtain ⟨l, hl⟩ : ∃ l, l = zs.getD m 0 := ⟨_, rfl⟩
        have q1 : wr.cell? ⟨w.heap.size, 2, none⟩ = some (.int .i32 f) := by rw [blk_cell HCr.out.1, hf]; exact HJ.out 0 (by omega)
        have q2 : wr.cell? ⟨w.heap.size, m * 4 + 2, none⟩ = some (.int .i32 l) := by rw [blk_cell HCr.out.1, hl]; exact HJ.out m (by omega)
        have hlt0 : w.heap.size < wr.heap.size := blk_lt HCr.out.1
        have hbl' : b < wr.heap.size := by omega
        have p1 : wr.cell? ⟨b, off, none⟩ = some (.int .i32 f) := by rw [hbr.cell (p := ⟨b, off, none⟩) hbl, hf]; exact hcell
        have p2 : wr.cell? ⟨b, off + m, none⟩ = some (.int .i32 l) := by rw [hbr.cell (p := ⟨b, off + m, none⟩) hbl, hl]; exact hcell2
        have hne : (((m + 1 : Nat) : Int) == 0) = false := by simp; omega
        have hpos : (0 : Int) < ((m + 1 : Nat) : Int) := by omega
        clear hcell hcell2 hf hl
        go_wp2_with fail
        refine (span_some wr.heap.size w.heap.size m (m + 1) f l _ (by omega) (by simp) (by rw [World.cell?_alloc_lt _ _ _ (by exact hlt0)]; exact q1) (by rw [World.cell?_alloc_lt _ _ _ (by exact hlt0)]; exact q2)).mono ?_
        rintro e w' ⟨rfl, nq, rfl⟩
        go_wp2_with fail
        go_ret
        exact ⟨rfl, below_drewN (hbr.alloc hsr _) _⟩
end Go.Proofs.Ybulkalos.Law
