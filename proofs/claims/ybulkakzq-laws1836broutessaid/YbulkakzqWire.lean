/-
  THE WIRE's WRITERS: contracts of appendField, AppendUint64, AppendUint32, zzs1836abe, each onto a slice that the call owns.
-/
import Derived.Test.YbulkakzqRows
import Derived.WalkKit
import Derived.WalkLawsBesides
import Derived.Lib.AppendStr
import Derived.Maps.AppendAt
import Derived.Outline
namespace Go.Proofs.Ybulkakzq.Wire
open Go.RowKit
set_option linter.unusedVariables false

theorem info5 : (Yba.prog.info? 5).map (fun i => (i.zero, i.size, i.bytes)) = some (some (.int .u8 0), 1, 1) := by kernel_rfl

/-- Numbers as cells of bytes. -/
def bc (l : List Int) : List Value := l.map (Value.int .u8)
theorem bc_append (a b : List Int) : bc (a ++ b) = bc a ++ bc b := by simp [bc]
theorem bc_length (a : List Int) : (bc a).length = a.length := by simp [bc]
theorem bc_one (a : List Int) : ∀ u ∈ bc a, u.oneCell' = true := ints_oneCell _ _

/-- The k least bytes of v, the greatest first. -/
def beZ (v : Int) : Nat → List Int
  | 0 => []
  | k + 1 => (v / 2 ^ (8 * k) % 256) :: beZ v k
theorem beZ_length (v : Int) (k : Nat) : (beZ v k).length = k := by induction k with | zero => rfl | succ k ih => simp [beZ, ih]

/-- The bytes of a text as numbers. -/
def str (s : ByteArray) : List Int := s.data.toList.map fun b => (b.toNat : Int)
theorem strCells_eq (s : ByteArray) : Lib.strCells s = bc (str s) := by simp [Lib.strCells, bc, str]
theorem str_length (s : ByteArray) : (str s).length = s.size := by simp [str]

theorem beZ8 (v : Int) (hv0 : 0 ≤ v) (hv : v ≤ 18446744073709551615) : beZ v 8 = [v / 72057594037927936, v / 281474976710656 % 256, v / 1099511627776 % 256, v / 4294967296 % 256, v / 16777216 % 256, v / 65536 % 256, v / 256 % 256, v % 256] := by
  have e : v / 72057594037927936 % 256 = v / 72057594037927936 := by omega
  simp [beZ, e]
theorem beZ4 (v : Int) (hv0 : 0 ≤ v) (hv : v ≤ 4294967295) : beZ v 4 = [v / 16777216, v / 65536 % 256, v / 256 % 256, v % 256] := by
  have e : v / 16777216 % 256 = v / 16777216 := by omega
  simp [beZ, e]

set_option maxHeartbeats 1000000 in
set_option maxRecDepth 100000 in
theorem u64_any (B n : Nat) (v : Int) (hv0 : 0 ≤ v) (hv : v ≤ 18446744073709551615) (sv : Value) (xs : List Value) (w : World) (hown : w.ownsRow B 5 1 sv n xs) (hBw : B ≤ w.heap.size) (hlim : n + 8 ≤ 140737488355328) :
    Calls Yba.prog 19 #[.agg #[], sv, .int .u64 v] w fun e w' => ∃ v', e = .returned v' ∧ w'.ownsRow B 5 1 v' (n + 8) (xs ++ bc (beZ v 8)) ∧ w.grownBy w' sv.ownBlock := by
  obtain ⟨i0, hi, hz0, hz1, hz2⟩ := info_parts info5
  have HB : Hid (beZ v 8 = [v / 72057594037927936, v / 281474976710656 % 256, v / 1099511627776 % 256, v / 4294967296 % 256, v / 16777216 % 256, v / 65536 % 256, v / 256 % 256, v % 256]) := beZ8 v hv0 hv
  go_enter Yba.func19, Yba.ntmps19
  go_wp2_with (at_builtin; refine wpList_append_own _ rfl _ _ 23 rfl B 5 i0 (.int .u8 0) 1 1 Yba.underlying23 hi hz0 hz1 hz2 rfl (by decide) _ _ _ rfl ((hown.alloc _).alloc _) _ 8 8 (bc [v / 72057594037927936, v / 281474976710656 % 256, v / 1099511627776 % 256, v / 4294967296 % 256, v / 16777216 % 256, v / 65536 % 256, v / 256 % 256, v % 256]) rfl rfl ?c1 (bc_one _) ?c3 ?c4 ?c5 ?_)
  case c1 =>
    intro j u hj
    match j, hj with
    | 0, hj => simp [bc] at hj; subst hj; simp [Addr.add]
    | 1, hj => simp [bc] at hj; subst hj; simp [Addr.add]
    | 2, hj => simp [bc] at hj; subst hj; simp [Addr.add]
    | 3, hj => simp [bc] at hj; subst hj; simp [Addr.add]
    | 4, hj => simp [bc] at hj; subst hj; simp [Addr.add]
    | 5, hj => simp [bc] at hj; subst hj; simp [Addr.add]
    | 6, hj => simp [bc] at hj; subst hj; simp [Addr.add]
    | 7, hj => simp [bc] at hj; subst hj; simp [Addr.add]
  case c3 => unfold maxLen; omega
  case c4 => omega
  case c5 => simp; omega
  intro v' w2 hown' hgrow _
  go_wp2
  go_ret
  refine ⟨v', rfl, by rw [HB.out]; exact hown', ?_⟩
  exact ((World.grownBy_alloc w _ _).trans (World.grownBy_alloc _ _ _)).trans hgrow

set_option maxHeartbeats 1000000 in
set_option maxRecDepth 100000 in
theorem u32_any (B n : Nat) (v : Int) (hv0 : 0 ≤ v) (hv : v ≤ 4294967295) (sv : Value) (xs : List Value) (w : World) (hown : w.ownsRow B 5 1 sv n xs) (hBw : B ≤ w.heap.size) (hlim : n + 4 ≤ 140737488355328) :
    Calls Yba.prog 29 #[.agg #[], sv, .int .u32 v] w fun e w' => ∃ v', e = .returned v' ∧ w'.ownsRow B 5 1 v' (n + 4) (xs ++ bc (beZ v 4)) ∧ w.grownBy w' sv.ownBlock := by
  obtain ⟨i0, hi, hz0, hz1, hz2⟩ := info_parts info5
  have HB : Hid (beZ v 4 = [v / 16777216, v / 65536 % 256, v / 256 % 256, v % 256]) := beZ4 v hv0 hv
  go_enter Yba.func29, Yba.ntmps29
  go_wp2_with (at_builtin; refine wpList_append_own _ rfl _ _ 23 rfl B 5 i0 (.int .u8 0) 1 1 Yba.underlying23 hi hz0 hz1 hz2 rfl (by decide) _ _ _ rfl ((hown.alloc _).alloc _) _ 4 4 (bc [v / 16777216, v / 65536 % 256, v / 256 % 256, v % 256]) rfl rfl ?c1 (bc_one _) ?c3 ?c4 ?c5 ?_)
  case c1 =>
    intro j u hj
    match j, hj with
    | 0, hj => simp [bc] at hj; subst hj; simp [Addr.add]
    | 1, hj => simp [bc] at hj; subst hj; simp [Addr.add]
    | 2, hj => simp [bc] at hj; subst hj; simp [Addr.add]
    | 3, hj => simp [bc] at hj; subst hj; simp [Addr.add]
  case c3 => unfold maxLen; omega
  case c4 => omega
  case c5 => simp; omega
  intro v' w2 hown' hgrow _
  go_wp2
  go_ret
  refine ⟨v', rfl, by rw [HB.out]; exact hown', ?_⟩
  exact ((World.grownBy_alloc w _ _).trans (World.grownBy_alloc _ _ _)).trans hgrow

set_option maxHeartbeats 1000000 in
set_option maxRecDepth 100000 in
/-- appendField: a length byte, then the text. -/
theorem field_any (B n : Nat) (s : ByteArray) (sv : Value) (xs : List Value) (w : World) (hown : w.ownsRow B 5 1 sv n xs) (hBw : B ≤ w.heap.size) (hlim : n + 1 + s.size ≤ 140737488355328) :
    Calls Yba.prog 18 #[sv, .string s] w fun e w' => ∃ v', e = .returned v' ∧ w'.ownsRow B 5 1 v' (n + 1 + s.size) (xs ++ bc (((s.size : Int) % 256) :: str s)) ∧ Below B w w' := by
  obtain ⟨i0, hi, hz0, hz1, hz2⟩ := info_parts info5
  go_enter Yba.func18, Yba.ntmps18
  go_wp2_with (at_builtin; refine wpList_append_own _ rfl (.tmp 5) (.tmp 9) 23 rfl B 5 i0 (.int .u8 0) 1 1 Yba.underlying23 hi hz0 hz1 hz2 rfl (by decide) _ _ _ rfl (hown.alloc _) _ 1 1 (bc [(s.size : Int) % 256]) rfl rfl ?c1 (bc_one _) ?c3 ?c4 ?c5 ?_)
  case c1 =>
    intro j u hj
    match j, hj with
    | 0, hj => simp [bc] at hj; subst hj; simp [Addr.add]
  case c3 => unfold maxLen; omega
  case c4 => omega
  case c5 => simp; omega
  intro v1 w1 hown1 hgrow1 _
  go_wp2_with (at_builtin; refine Lib.wpList_append_own_string _ rfl (.tmp 11) (.tmp 12) 23 9 rfl B 5 i0 Yba.underlying23 Yba.underlying9 hi hz0 hz1 hz2 _ _ _ rfl hown1 s rfl ?d1 ?d2 ?d3 ?_)
  case d1 => unfold maxLen; omega
  case d2 => omega
  case d3 => have := hgrow1.size; simp at this; omega
  intro v2 w2 hown2 hgrow2 _
  go_wp2
  go_ret
  refine ⟨v2, rfl, ?_, ?_⟩
  · rw [strCells_eq, ← bc_append] at hown2; exact hown2
  · have b1 := (((Below.refl B w).alloc hBw _).grown hgrow1 (by simp; omega) (fun k hk => (hown.lt k hk).1))
    exact b1.grown hgrow2 (by have := b1.size; omega) (fun k hk => (hown1.lt k hk).1)

set_option maxHeartbeats 1000000 in
set_option maxRecDepth 100000 in
/-- AppendFrame onto nil, of one part that is not nil. -/
theorem frame_any (k : Int) (g m cap pp : Nat) (ys : List Int) (w : World) (hys : ys.length = m) (hm : m ≤ 2147483647)
    (hcell : ∀ j u, (bc ys)[j]? = some u → w.cell? ((⟨g, 0, none⟩ : Addr).add j) = some u) (hg : g < w.heap.size) (hpp : w.cell? ⟨pp, 0, none⟩ = some (.slice (some ⟨g, 0, none⟩) m cap)) (hpl : pp < w.heap.size) :
    Calls Yba.prog 20 #[.slice none 0 0, .int .u8 k, .slice (some ⟨pp, 0, none⟩) 1 1] w fun e w' => ∃ v', e = .returned v' ∧ w'.ownsRow w.heap.size 5 1 v' (5 + m) (bc (beZ (1 + m) 4 ++ (k :: ys))) ∧ Below w.heap.size w w' := by
  obtain ⟨i0, hi, hz0, hz1, hz2⟩ := info_parts info5
  go_enter Yba.func20, Yba.ntmps20
  go_wp2_with fail
  refine wp_loop_rounds 2 ?_
  rw [rounds_succ]
  go_wp2_with fail
  rw [rounds_succ]
  go_wp2_with fail
  refine (u32_any w.heap.size 0 _ (by omega) (by omega) _ [] w (World.ownsRow_nil _ _ _ _) (Nat.le_refl _) (by omega)).mono ?_
  rintro e w1 ⟨v1, rfl, hown1, hgrow1⟩
  have hb1 : Below w.heap.size w w1 := (Below.refl _ _).grown hgrow1 (Nat.le_refl _) (fun k hk => by simp [Value.ownBlock] at hk)
  have hs1 := hb1.size
  simp only [List.nil_append] at hown1
  go_wp2_with (at_builtin; refine wpList_append_own _ rfl (.tmp 28) (.tmp 30) 23 rfl w.heap.size 5 i0 (.int .u8 0) 1 1 Yba.underlying23 hi hz0 hz1 hz2 rfl (by decide) _ _ _ rfl (hown1.alloc _) _ 1 1 (bc [k]) rfl rfl ?c1 (bc_one _) ?c3 ?c4 ?c5 ?_)
  case c1 =>
    intro j u hj
    match j, hj with
    | 0, hj => simp [bc] at hj; subst hj; simp [Addr.add]
  case c3 => unfold maxLen; omega
  case c4 => omega
  case c5 => simp; omega
  intro v2 w2 hown2 hgrow2 _
  have hb2 : Below w.heap.size w w2 := (hb1.alloc hs1 _).grown hgrow2 (by simp; omega) (fun k hk => (hown1.lt k hk).1)
  have hs2 := hb2.size
  have hpp2 : w2.cell? ⟨pp, 0, none⟩ = some (.slice (some ⟨g, 0, none⟩) m cap) := (hb2.cell hpl).trans hpp
  have hcell2 : ∀ j u, (bc ys)[j]? = some u → w2.cell? ((⟨g, 0, none⟩ : Addr).add j) = some u := fun j u h => (hb2.cell (p := (⟨g, 0, none⟩ : Addr).add j) (by rw [Addr.add_lit]; exact hg)).trans (hcell j u h)
  clear hgrow1 hgrow2 hcell hpp
  go_wp2_with fail
  refine wp_loop_rounds 2 ?_
  rw [rounds_succ]
  go_wp2_with (at_builtin; refine wpList_append_own _ rfl (.tmp 38) (.tmp 39) 23 rfl w.heap.size 5 i0 (.int .u8 0) 1 1 Yba.underlying23 hi hz0 hz1 hz2 rfl (by decide) _ _ _ rfl hown2 _ m cap (bc ys) rfl ?d0 hcell2 (bc_one _) ?d3 ?d4 ?d5 ?_)
  case d0 => simp [bc_length, hys]
  case d3 => unfold maxLen; omega
  case d4 => omega
  case d5 => omega
  intro v3 w3 hown3 hgrow3 _
  have hb3 : Below w.heap.size w w3 := hb2.grown hgrow3 (by omega) (fun k hk => (hown2.lt k hk).1)
  go_wp2_with fail
  rw [rounds_succ]
  go_wp2
  go_ret
  refine ⟨v3, rfl, ?_, hb3⟩
  have e5 : 5 + m = 0 + 4 + 1 + m := by omega
  rw [e5, bc_append, show bc (k :: ys) = bc [k] ++ bc ys from rfl, ← List.append_assoc]
  simpa using hown3

set_option maxHeartbeats 1000000 in
set_option maxRecDepth 100000 in
/-- zzs1836abe: the k least bytes of v, the greatest first, appended one by one. -/
theorem abe_any (B n k : Nat) (v : Int) (hv0 : 0 ≤ v) (hv : v ≤ 18446744073709551615) (hk : k ≤ 8) (sv : Value) (xs : List Value) (w : World) (hown : w.ownsRow B 5 1 sv n xs) (hBw : B ≤ w.heap.size) (hlim : n + k ≤ 140737488355328) :
    Calls Yba.prog 7 #[sv, .int .u64 v, .int .i64 k] w fun e w' => ∃ v', e = .returned v' ∧ w'.ownsRow B 5 1 v' (n + k) (xs ++ bc (beZ v k)) ∧ Below B w w' := by
  obtain ⟨i0, hi, hz0, hz1, hz2⟩ := info_parts info5
  go_enter Yba.func7, Yba.ntmps7
  go_wp2_with fail
  go_loopw [0, 7] (fun b i wr => ∃ (m : Nat) (ys : List Int), m ≤ k ∧ i = .int .i64 ((m : Int) - 1) ∧ ys.length + m = k ∧ Hid (ys ++ beZ v m = beZ v k) ∧ wr.ownsRow B 5 1 b (n + ys.length) (xs ++ bc ys) ∧ Below B w wr) (fun _ i _ => (intOf i + 1).toNat)
  case atStart => exact ⟨k, [], Nat.le_refl _, rfl, by simp, rfl, by simpa [bc] using hown, Below.refl _ _⟩
  case round =>
    obtain ⟨m, ys, hm, rfl, hl, HS, hown1, hb1⟩ := hrel
    cases m with
    | zero =>
      have hk0 : ys.length = k := by omega
      have HR : Hid (ys = beZ v k) := by have h := HS.out; simp only [beZ, List.append_nil] at h; exact h
      clear HS
      go_wp2_with fail
      go_ret
      refine ⟨u0, rfl, ?_, hb1⟩
      rw [← HR.out, ← hk0]; exact hown1
    | succ m =>
      have hlt : (0 : Int) ≤ ((m + 1 : Nat) : Int) - 1 := by omega
      have hs1 := hb1.size
      go_wp2_with (at_builtin; refine wpList_append_own _ rfl (.tmp 14) (.tmp 21) 23 rfl B 5 i0 (.int .u8 0) 1 1 Yba.underlying23 hi hz0 hz1 hz2 rfl (by decide) _ _ _ rfl (hown1.alloc _) _ 1 1 (bc [v / 2 ^ (8 * m) % 256]) rfl rfl ?c1 (bc_one _) ?c3 ?c4 ?c5 ?_)
      case c1 =>
        intro j u hj
        match j, hj with
        | 0, hj => simp [bc] at hj; subst hj; simp [Addr.add]
      case c3 => unfold maxLen; omega
      case c4 => omega
      case c5 => simp; omega
      intro v1 w1 hown2 hgrow2 _
      have hb2 : Below B w w1 := (hb1.alloc (by omega) _).grown hgrow2 (by simp; omega) (fun k hk => (hown1.lt k hk).1)
      clear hgrow2 hown1
      go_wp2_with fail
      go_roundw
      case rel => exact ⟨m, ys ++ [v / 2 ^ (8 * m) % 256], by omega, by go_num, by simp; omega, by have := HS.out; simpa [beZ, Hid] using this, by rw [bc_append]; simpa [Nat.add_assoc] using hown2, hb2⟩
      case measure => simp [intOf]

/-- The frame that unheldFrame makes. -/
def unheldZ (k : Int) (s : ByteArray) (a o l : Int) : List Int := beZ (26 + s.size) 4 ++ (k :: ((s.size : Int) % 256) :: (str s ++ (beZ a 8 ++ (beZ o 8 ++ beZ l 8))))

theorem owns_mono {w : World} {B B' e size n : Nat} {v : Value} {xs : List Value} (h : w.ownsRow B e size v n xs) (hB : B' ≤ B) : w.ownsRow B' e size v n xs := by
  obtain ⟨h1, h2⟩ := h
  refine ⟨h1, ?_⟩
  rcases h2 with h2 | ⟨g, cap, cur, hv, hg, r⟩
  · exact .inl h2
  · exact .inr ⟨g, cap, cur, hv, by omega, r⟩

/-- The form of a value that owns at least one element, and its cells. -/
theorem owns_form {w : World} {B n : Nat} {v : Value} {ys : List Int} (h : w.ownsRow B 5 1 v n (bc ys)) (hn : 0 < n) :
    ∃ g cap, v = .slice (some ⟨g, 0, none⟩) n cap ∧ B ≤ g ∧ g < w.heap.size ∧ ys.length = n ∧ n ≤ cap ∧ ∀ j, j < n → w.cell? ⟨g, j, none⟩ = some (.int .u8 (ys.getD j 0)) := by
  have hl : ys.length = n := by have := h.1; simpa [bc] using this
  rcases h.2 with ⟨_, h0⟩ | ⟨g, cap, cur, rfl, hb, hh, hc, _⟩
  · omega
  · refine ⟨g, cap, rfl, hb, (Array.getElem?_eq_some_iff.1 hh).1, hl, hc, fun j hj => ?_⟩
    have := h.cells (g := g) rfl j (.int .u8 (ys.getD j 0)) (by simp [bc, List.getD, hl, hj])
    rw [Addr.add_lit] at this
    simpa using this

/-- A block of the call's own, of another element type than bytes, stays while a slice of bytes grows. -/
theorem keepLit {w w' : World} {B n L T : Nat} {v : Value} {xs : List Value} {c : Array Value} (hT : T ≠ 5) (hL : w.heap[L]? = some (.cells c T (0, 0))) (ho : w.ownsRow B 5 1 v n xs) (hg : w.grownBy w' v.ownBlock) :
    w'.heap[L]? = some (.cells c T (0, 0)) := by
  have hlt : L < w.heap.size := (Array.getElem?_eq_some_iff.1 hL).1
  rw [hg.block L hlt ?_]
  · exact hL
  · intro e
    rcases ho.2 with ⟨rfl, _⟩ | ⟨g, cap, cur, rfl, hb, hh, _⟩
    · simp [Value.ownBlock] at e
    · simp [Value.ownBlock] at e
      subst e
      rw [hL] at hh
      simp at hh
      exact hT hh.2

theorem cellLit {w : World} {L T : Nat} {c : Array Value} (hL : w.heap[L]? = some (.cells c T (0, 0))) (j : Nat) : w.cell? ⟨L, j, none⟩ = c[j]? := by simp [World.cell?, hL]

set_option maxHeartbeats 1000000 in
set_option maxRecDepth 100000 in
theorem unheld_any (k : Int) (s : ByteArray) (a o l : Int) (ha0 : 0 ≤ a) (ha : a ≤ 18446744073709551615) (ho0 : 0 ≤ o) (ho : o ≤ 18446744073709551615) (hl0 : 0 ≤ l) (hl : l ≤ 18446744073709551615) (hs : s.size ≤ 4096) (w : World) :
    Calls Yba.prog 6 #[.int .u8 k, .string s, .agg #[.int .u64 a, .int .u64 o, .int .u64 l]] w fun e w' => ∃ v', e = .returned v' ∧ w'.ownsRow w.heap.size 5 1 v' (30 + s.size) (bc (unheldZ k s a o l)) ∧ Below w.heap.size w w' := by
  go_enter Yba.func6, Yba.ntmps6
  go_wp2_with fail
  refine (field_any (w.heap.size + 1) 0 s _ [] _ (World.ownsRow_nil _ _ _ _) (by simp) (by omega)).mono ?_
  rintro e w1 ⟨v1, rfl, hown1, hb1⟩
  have hs1 := hb1.size
  simp only [World.size_alloc] at hs1
  have k0 : w1.cell? ⟨w.heap.size, 0, none⟩ = some (.int .u64 a) := (hb1.cell (p := ⟨w.heap.size, 0, none⟩) (by simp)).trans (by simp)
  have k1 : w1.cell? ⟨w.heap.size, 1, none⟩ = some (.int .u64 o) := (hb1.cell (p := ⟨w.heap.size, 1, none⟩) (by simp)).trans (by simp)
  have k2 : w1.cell? ⟨w.heap.size, 2, none⟩ = some (.int .u64 l) := (hb1.cell (p := ⟨w.heap.size, 2, none⟩) (by simp)).trans (by simp)
  have HB1 : Hid (Below w.heap.size w w1) := ((Below.refl _ _).alloc (Nat.le_refl _) _).trans (hb1.mono (by simp))
  clear hb1
  go_wp2_with fail
  refine wp_loop_rounds 4 ?_
  rw [rounds_succ]
  go_wp2_with fail
  have hL1 : (w1.alloc (Obj.cells #[Value.int IntKind.u64 a, Value.int IntKind.u64 o, Value.int IntKind.u64 l] 22)).heap[w1.heap.size]? = some (.cells #[Value.int IntKind.u64 a, Value.int IntKind.u64 o, Value.int IntKind.u64 l] 22 (0, 0)) := heap_alloc_new _ _
  have hown1' := hown1.alloc (Obj.cells #[Value.int IntKind.u64 a, Value.int IntKind.u64 o, Value.int IntKind.u64 l] 22)
  refine (u64_any (w.heap.size + 1) _ a ha0 ha _ _ _ hown1' (by simp; omega) (by omega)).mono ?_
  rintro e w2 ⟨v2, rfl, hown2, hgr2⟩
  have hs2 := hgr2.size
  simp only [World.size_alloc] at hs2
  have HL2 : Hid (w2.heap[w1.heap.size]? = some (.cells #[Value.int IntKind.u64 a, Value.int IntKind.u64 o, Value.int IntKind.u64 l] 22 (0, 0))) := keepLit (by decide) hL1 hown1' hgr2
  have HB2 : Hid (Below w.heap.size w w2) := (HB1.out.alloc (by omega) _).grown hgr2 (by simp; omega) (fun k hk => by have := (hown1.lt k hk).1; omega)
  have c2 : w2.cell? ⟨w1.heap.size, 1, none⟩ = some (.int .u64 o) := by rw [cellLit HL2.out]; rfl
  clear hL1 hown1' hgr2 HB1 hown1
  go_wp2_with fail
  rw [rounds_succ]
  go_wp2_with fail
  refine (u64_any (w.heap.size + 1) _ o ho0 ho _ _ _ hown2 (by omega) (by omega)).mono ?_
  rintro e w3 ⟨v3, rfl, hown3, hgr3⟩
  have hs3 := hgr3.size
  have HL3 : Hid (w3.heap[w1.heap.size]? = some (.cells #[Value.int IntKind.u64 a, Value.int IntKind.u64 o, Value.int IntKind.u64 l] 22 (0, 0))) := keepLit (by decide) HL2.out hown2 hgr3
  have HB3 : Hid (Below w.heap.size w w3) := HB2.out.grown hgr3 (by omega) (fun k hk => by have := (hown2.lt k hk).1; omega)
  have c3 : w3.cell? ⟨w1.heap.size, 2, none⟩ = some (.int .u64 l) := by rw [cellLit HL3.out]; rfl
  clear hgr3 HB2 HL2 c2 hown2
  go_wp2_with fail
  rw [rounds_succ]
  go_wp2_with fail
  refine (u64_any (w.heap.size + 1) _ l hl0 hl _ _ _ hown3 (by omega) (by omega)).mono ?_
  rintro e w4 ⟨v4, rfl, hown4, hgr4⟩
  have hs4 := hgr4.size
  have HB4 : Hid (Below w.heap.size w w4) := HB3.out.grown hgr4 (by omega) (fun k hk => by have := (hown3.lt k hk).1; omega)
  clear hgr4 HB3 HL3 c3 hown3
  have e4 : [] ++ bc (↑s.size % 256 :: str s) ++ bc (beZ a 8) ++ bc (beZ o 8) ++ bc (beZ l 8) = bc ((↑s.size % 256) :: (str s ++ (beZ a 8 ++ (beZ o 8 ++ beZ l 8)))) := by simp [bc]
  have e5 : 0 + 1 + s.size + 8 + 8 + 8 = 25 + s.size := by omega
  rw [e4, e5] at hown4
  clear e4 e5
  obtain ⟨g, cap, hv4, hgl⟩ : ∃ g cap, v4 = .slice (some ⟨g, 0, none⟩) (25 + s.size) cap ∧ g < w4.heap.size := by
    rcases hown4.2 with ⟨_, h0⟩ | ⟨g, cap, cur, hv, _, hh, _⟩
    · omega
    · exact ⟨g, cap, hv, (Array.getElem?_eq_some_iff.1 hh).1⟩
  subst hv4
  have hcells := hown4.cells (g := g) rfl
  have HC : Hid (∀ j u, (bc ((↑s.size % 256) :: (str s ++ (beZ a 8 ++ (beZ o 8 ++ beZ l 8)))))[j]? = some u → w4.cell? ((⟨g, 0, none⟩ : Addr).add j) = some u) := hcells
  clear hcells hown4
  go_wp2_with fail
  rw [rounds_succ]
  go_wp2_with fail
  refine (frame_any k g (25 + s.size) cap w4.heap.size ((↑s.size % 256) :: (str s ++ (beZ a 8 ++ (beZ o 8 ++ beZ l 8)))) _ (by simp [str_length, beZ_length]; omega) (by omega) ?_ (by simp; omega) (by simp) (by simp)).mono ?_
  · intro j u hj
    have h := HC.out j u hj
    rw [Addr.add_lit] at h ⊢
    rw [World.cell?_alloc_lt _ _ _ (by exact hgl)]
    exact h
  rintro e w5 ⟨v5, rfl, hown5, hb5⟩
  go_wp2_with fail
  go_ret
  refine ⟨v5, rfl, ?_, ?_⟩
  · have e1 : 5 + (25 + s.size) = 30 + s.size := by omega
    have e2 : (1 : Int) + ((25 + s.size : Nat) : Int) = 26 + s.size := by omega
    rw [e1, e2] at hown5
    exact owns_mono hown5 (by simp; omega)
  · exact (HB4.out.alloc (by omega) _).trans (hb5.mono (by simp; omega))
end Go.Proofs.Ybulkakzq.Wire
