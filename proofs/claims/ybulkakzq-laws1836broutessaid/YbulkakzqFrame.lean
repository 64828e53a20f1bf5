/-
  DecisionFrame: appendID, appendList, appendStamp, the frame.
-/
import Derived.Test.YbulkakzqWire
import Derived.Test.YbulkakzqBlocks
import Derived.Test.YbulkakzqSteps
import Derived.Shelf.Abstract
import Derived.Deep.DeepCutAuto
namespace Go.Proofs.Ybulkakzq.DFrame
open Go.RowKit Wire Blocks RegSteps
open Go.Shelf
set_option linter.unusedVariables false
set_option maxRecDepth 100000

def idZ (s : ByteArray) (a b : Int) : List Int := ((s.size : Int) % 256) :: (str s ++ (beZ a 8 ++ beZ b 8))
def fldZ (s : ByteArray) : List Int := ((s.size : Int) % 256) :: str s
def listZ (l : List ByteArray) : List Int := ((l.length : Int) % 256) :: l.flatMap fldZ
def stampZ (ab : Bool) (st : Int) : List Int := (if ab then 1 else 0) :: beZ st 8

theorem fldZ_len (s : ByteArray) : (fldZ s).length = 1 + s.size := by simp [fldZ, str_length]; omega
theorem idZ_len (s : ByteArray) (a b : Int) : (idZ s a b).length = 17 + s.size := by simp [idZ, str_length, beZ_length]; omega
theorem stampZ_len (ab : Bool) (st : Int) : (stampZ ab st).length = 9 := by simp [stampZ, beZ_length]

theorem flat_snoc (l : List ByteArray) (x : ByteArray) : (l ++ [x]).flatMap fldZ = l.flatMap fldZ ++ fldZ x := by simp

set_option maxHeartbeats 2000000 in
theorem id_any (s : ByteArray) (a b : Int) (ha0 : 0 ≤ a) (ha : a ≤ 18446744073709551615) (hb0 : 0 ≤ b) (hb : b ≤ 18446744073709551615) (w : World) (hlim : s.size ≤ 4096) :
    Calls Yba.prog 25 #[.slice none 0 0, .agg #[.string s, .int .u64 a, .int .u64 b]] w fun e w' => ∃ v', e = .returned v' ∧ w'.ownsRow w.heap.size 5 1 v' (17 + s.size) (bc (idZ s a b)) ∧ Below w.heap.size w w' := by
  go_enter Yba.func25, Yba.ntmps25
  go_wp2_with fail
  refine (field_any (w.heap.size + 1) 0 s _ [] _ (World.ownsRow_nil _ _ _ _) (by simp) (by omega)).mono ?_
  rintro e w1 ⟨v1, rfl, hown1, hb1⟩
  have hs1 := hb1.size
  simp only [World.size_alloc] at hs1
  have hL1 : w1.heap[w.heap.size]? = some (.cells #[.string s, .int .u64 a, .int .u64 b] 41 (0, 0)) := by rw [hb1.block _ (by omega)]; exact heap_alloc_new w _
  have k1 : w1.cell? ⟨w.heap.size, 1, none⟩ = some (.int .u64 a) := by rw [cellLit hL1]; rfl
  have HB1 : Hid (Below w.heap.size w w1) := ((Below.refl _ _).alloc (Nat.le_refl _) _).trans (hb1.mono (by simp))
  clear hb1
  go_wp2_with fail
  refine (u64_any (w.heap.size + 1) _ a ha0 ha _ _ _ hown1 (by omega) (by omega)).mono ?_
  rintro e w2 ⟨v2, rfl, hown2, hgr2⟩
  have hs2 := hgr2.size
  have hL2 : w2.heap[w.heap.size]? = some (.cells #[.string s, .int .u64 a, .int .u64 b] 41 (0, 0)) := keepLit (by decide) hL1 hown1 hgr2
  have k2 : w2.cell? ⟨w.heap.size, 2, none⟩ = some (.int .u64 b) := by rw [cellLit hL2]; rfl
  have HB2 : Hid (Below w.heap.size w w2) := HB1.out.grown hgr2 (by omega) (fun k hk => by have := (hown1.lt k hk).1; omega)
  clear hgr2 hL1 k1 hown1
  go_wp2_with fail
  refine (u64_any (w.heap.size + 1) _ b hb0 hb _ _ _ hown2 (by omega) (by omega)).mono ?_
  rintro e w3 ⟨v3, rfl, hown3, hgr3⟩
  have HB3 : Hid (Below w.heap.size w w3) := HB2.out.grown hgr3 (by omega) (fun k hk => by have := (hown2.lt k hk).1; omega)
  clear hgr3 hL2 k2 hown2
  go_wp2
  go_ret
  refine ⟨v3, rfl, ?_, HB3.out⟩
  have e4 : [] ++ bc (↑s.size % 256 :: str s) ++ bc (beZ a 8) ++ bc (beZ b 8) = bc (idZ s a b) := by simp [bc, idZ]
  have e5 : 0 + 1 + s.size + 8 + 8 = 17 + s.size := by omega
  rw [e4, e5] at hown3
  exact owns_mono hown3 (by omega)

set_option maxHeartbeats 4000000 in
theorem stamp_any (B n : Nat) (ab : Bool) (st : Int) (h0 : 0 ≤ st) (h1 : st ≤ 18446744073709551615) (sv : Value) (xs : List Value) (w : World) (hown : w.ownsRow B 5 1 sv n xs) (hBw : B ≤ w.heap.size) (hlim : n + 9 ≤ 140737488355328) :
    Calls Yba.prog 23 #[sv, .bool ab, .int .u64 st] w fun e w' => ∃ v', e = .returned v' ∧ w'.ownsRow B 5 1 v' (n + 9) (xs ++ bc (stampZ ab st)) ∧ Below B w w' := by
  obtain ⟨i0, hi, hz0, hz1, hz2⟩ := info_parts info5
  have en : ∀ args w, (callFunc 19 args).run Yba.prog w = .ok (.enter 19 args) w := enters_of Yba.func19 (by kernel_rfl) rfl
  cases ab with
  | false =>
    go_enter Yba.func23, Yba.ntmps23
    go_wp2_with fail
    go_region_law (first
      | (refine step_append_own rfl (.tmp 10) (.tmp 12) 23 rfl B 5 i0 (.int .u8 0) 1 1 Yba.underlying23 hi hz0 hz1 hz2 rfl (by decide) sv n xs rfl (by first | exact (hown.alloc _) | exact hown) _ 1 1 (bc [0]) rfl rfl (by intro j u hj; match j, hj with | 0, hj => simp [bc] at hj; subst hj; simp [Addr.add]) (bc_one _) (by unfold maxLen; omega) (by omega) (by simp; omega) ?_
         intro v1 w1 hown1 hgr1 _)
      | (refine step_call rfl 19 _ _ rfl #[.agg #[], v1, .int .u64 st] (by go_simp) (en _ _) (u64_any B (n + 1) st h0 h1 _ _ _ hown1 (by have := hgr1.size; simp at this; omega) (by omega)) ?_
         rintro e w2 ⟨v2, rfl, hown2, hgr2⟩
         refine ⟨v2, rfl, ?_⟩))
    all_goals (
      go_wp2
      go_ret
      refine ⟨v2, rfl, ?_, ?_⟩
      · have e4 : xs ++ bc [0] ++ bc (beZ st 8) = xs ++ bc (stampZ false st) := by simp [bc, stampZ]
        rw [e4] at hown2
        exact hown2
      · have b1 : Below B w w1 := Below.grown (w := w.drew.alloc (.cells #[.int .u8 0] 5)) ((Below.refl B w).drew.alloc hBw _) hgr1 (by simp; omega) (fun k hk => (hown.lt k hk).1)
        exact b1.grown hgr2 (by have := b1.size; omega) (fun k hk => (hown1.lt k hk).1))
  | true =>
    go_enter Yba.func23, Yba.ntmps23
    go_wp2_with fail
    go_region_law (first
      | (refine step_append_own rfl (.tmp 10) (.tmp 12) 23 rfl B 5 i0 (.int .u8 0) 1 1 Yba.underlying23 hi hz0 hz1 hz2 rfl (by decide) sv n xs rfl (by first | exact (hown.alloc _) | exact hown) _ 1 1 (bc [1]) rfl rfl (by intro j u hj; match j, hj with | 0, hj => simp [bc] at hj; subst hj; simp [Addr.add]) (bc_one _) (by unfold maxLen; omega) (by omega) (by simp; omega) ?_
         intro v1 w1 hown1 hgr1 _)
      | (refine step_call rfl 19 _ _ rfl #[.agg #[], v1, .int .u64 st] (by go_simp) (en _ _) (u64_any B (n + 1) st h0 h1 _ _ _ hown1 (by have := hgr1.size; simp at this; omega) (by omega)) ?_
         rintro e w2 ⟨v2, rfl, hown2, hgr2⟩
         refine ⟨v2, rfl, ?_⟩))
    all_goals (
      go_wp2
      go_ret
      refine ⟨v2, rfl, ?_, ?_⟩
      · have e4 : xs ++ bc [1] ++ bc (beZ st 8) = xs ++ bc (stampZ true st) := by simp [bc, stampZ]
        rw [e4] at hown2
        exact hown2
      · have b1 : Below B w w1 := Below.grown (w := w.drew.alloc (.cells #[.int .u8 1] 5)) ((Below.refl B w).drew.alloc hBw _) hgr1 (by simp; omega) (fun k hk => (hown.lt k hk).1)
        exact b1.grown hgr2 (by have := b1.size; omega) (fun k hk => (hown1.lt k hk).1))

theorem flat_len {l : List ByteArray} (h : ∀ x ∈ l, x.size ≤ 10) : (l.flatMap fldZ).length ≤ 11 * l.length := by
  induction l with
  | nil => simp
  | cons a l ih =>
    have h1 := ih (fun x hx => h x (by simp [hx]))
    have h2 := h a (by simp)
    simp only [List.flatMap_cons, List.length_append, fldZ_len, List.length_cons]
    omega

set_option maxHeartbeats 4000000 in
theorem list_any (B n g cap : Nat) (l : List ByteArray) (sv : Value) (xs : List Value) (w : World) (hown : w.ownsRow B 5 1 sv n xs) (hBw : B ≤ w.heap.size) (hn : n ≤ 100000) (hl : l.length ≤ 1024) (hsz : ∀ x ∈ l, x.size ≤ 10) (hg : g < B)
    (hc : ∀ (j : Nat) (x : ByteArray), l[j]? = some x → w.cell? ⟨g, j, none⟩ = some (.string x)) :
    Calls Yba.prog 24 #[sv, .slice (some ⟨g, 0, none⟩) l.length cap] w fun e w' => ∃ v', e = .returned v' ∧ w'.ownsRow B 5 1 v' (n + (listZ l).length) (xs ++ bc (listZ l)) ∧ Below B w w' := by
  obtain ⟨i0, hi, hz0, hz1, hz2⟩ := info_parts info5
  have HC : Hid (∀ (j : Nat) (x : ByteArray), l[j]? = some x → w.cell? ⟨g, j, none⟩ = some (.string x)) := hc
  have HS : Hid (∀ x ∈ l, x.size ≤ 10) := hsz
  clear hc hsz
  go_enter Yba.func24, Yba.ntmps24
  go_wp2_with (at_builtin; refine wpList_append_own _ rfl (.tmp 7) (.tmp 11) 23 rfl B 5 i0 (.int .u8 0) 1 1 Yba.underlying23 hi hz0 hz1 hz2 rfl (by decide) _ _ _ rfl (hown.alloc _) _ 1 1 (bc [(l.length : Int) % 256]) rfl rfl ?c1 (bc_one _) ?c3 ?c4 ?c5 ?_)
  case c1 =>
    intro j u hj
    match j, hj with
    | 0, hj => simp [bc] at hj; subst hj; simp [Addr.add]
  case c3 => unfold maxLen; omega
  case c4 => omega
  case c5 => simp; omega
  intro v1 w1 hown1 hgrow1 _
  have HB1 : Hid (Below B w w1) := ((Below.refl B w).alloc hBw _).grown hgrow1 (by simp; omega) (fun k hk => (hown.lt k hk).1)
  have HO1 : Hid (w1.ownsRow B 5 1 v1 (n + 1 + ((l.take 0).flatMap fldZ).length) (xs ++ bc (((l.length : Int) % 256) :: (l.take 0).flatMap fldZ))) := by
    show World.ownsRow _ _ _ _ _ _ _
    simpa using hown1
  clear hown1 hgrow1 hown
  go_wp2_with fail
  go_loopg [0, 6, 15] l.length (fun gg s0 _ s15 wr => ∃ k : Nat, k ≤ l.length ∧ l.length - k ≤ gg ∧ s15 = .int .i64 k ∧ Hid (wr.ownsRow B 5 1 s0 (n + 1 + ((l.take k).flatMap fldZ).length) (xs ++ bc (((l.length : Int) % 256) :: (l.take k).flatMap fldZ))) ∧ Hid (Below B w wr))
  case atStart => exact ⟨0, Nat.zero_le _, by omega, rfl, HO1, HB1⟩
  case round =>
    obtain ⟨k, hk, hgg, rfl, hO, hB⟩ := hrel
    by_cases hlt : k < l.length
    · have hltz : (k : Int) < (l.length : Int) := by omega
      have hkx : l[k]? = some l[k] := List.getElem?_eq_getElem hlt
      have hcx : wr.cell? ⟨g, k, none⟩ = some (.string l[k]) := (hB.out.cell (p := ⟨g, k, none⟩) hg).trans (HC.out k _ hkx)
      have htk : Hid (l.take (k + 1) = l.take k ++ [l[k]]) := by show _ = _; rw [List.take_add_one, hkx]; rfl
      have hxs : l[k].size ≤ 10 := HS.out _ (List.getElem_mem hlt)
      have hfl : ((l.take k).flatMap fldZ).length ≤ 11 * l.length := by
        have h1 := flat_len (l := l.take k) (fun x hx => HS.out x (List.mem_of_mem_take hx))
        have h2 : (l.take k).length ≤ l.length := by simp; omega
        omega
      clear hkx
      generalize l[k] = x at hcx htk hxs
      have hC := field_any B _ x _ _ wr hO.out (Nat.le_trans hBw hB.out.size) (by omega)
      go_wp2_with fail
      refine hC.mono ?_
      rintro e w2 ⟨v2, rfl, hown2, hb2⟩
      clear hC
      have HO2 : Hid (w2.ownsRow B 5 1 v2 (n + 1 + ((l.take (k + 1)).flatMap fldZ).length) (xs ++ bc (((l.length : Int) % 256) :: (l.take (k + 1)).flatMap fldZ))) := by
        show World.ownsRow _ _ _ _ _ _ _
        rw [htk.out, flat_snoc, List.length_append, fldZ_len]
        have e1 : n + 1 + (((l.take k).flatMap fldZ).length + (1 + x.size)) = n + 1 + ((l.take k).flatMap fldZ).length + 1 + x.size := by omega
        have e2 : xs ++ bc (((l.length : Int) % 256) :: ((l.take k).flatMap fldZ ++ fldZ x)) = xs ++ bc (((l.length : Int) % 256) :: (l.take k).flatMap fldZ) ++ bc (((x.size : Int) % 256) :: str x) := by
          simp [bc, fldZ]
        rw [e1, e2]
        exact hown2
      have HB2 : Hid (Below B w w2) := hB.out.trans hb2
      clear hown2 hb2
      go_wp2
      go_roundg (l.length - (k + 1))
      case measure => omega
      case rel => exact ⟨k + 1, by omega, Nat.le_refl _, rfl, HO2, HB2⟩
    · have hge : ¬ ((k : Int) < (l.length : Int)) := by omega
      have HO2 : Hid (wr.ownsRow B 5 1 u0 (n + (listZ l).length) (xs ++ bc (listZ l))) := by
        have h1 := hO.out
        rw [List.take_of_length_le (by omega)] at h1
        show World.ownsRow _ _ _ _ _ _ _
        have e1 : n + (listZ l).length = n + 1 + (l.flatMap fldZ).length := by simp only [listZ, List.length_cons]; omega
        rw [e1]
        exact h1
      clear hO
      go_wp2
      go_ret
      exact ⟨_, rfl, HO2.out, hB.out⟩

end Go.Proofs.Ybulkakzq.DFrame
