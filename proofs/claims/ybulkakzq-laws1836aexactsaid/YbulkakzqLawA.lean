/-
  LawS1836AExact: the walk: the frame that unheldFrame makes is, byte for byte, the one that the law lays beside it.
-/
import Derived.Test.YbulkakzqWire
import Derived.Deep.QuietTactic
import Derived.BigQuiet
namespace Go.Proofs.Ybulkakzq.LawA
open Go.RowKit Go.Proofs.Ybulkakzq.Wire
set_option linter.unusedVariables false

theorem abe_at (B n k : Nat) (K : Int) (hK : K = (k : Int)) (v : Int) (hv0 : 0 ≤ v) (hv : v ≤ 18446744073709551615) (hk : k ≤ 8) (sv : Value) (xs : List Value) (w : World) (hown : w.ownsRow B 5 1 sv n xs) (hBw : B ≤ w.heap.size) (hlim : n + k ≤ 140737488355328) :
    Calls Yba.prog 7 #[sv, .int .u64 v, .int .i64 K] w fun e w' => ∃ v', e = .returned v' ∧ w'.ownsRow B 5 1 v' (n + k) (xs ++ bc (beZ v k)) ∧ Below B w w' := by
  subst hK
  exact abe_any B n k v hv0 hv hk sv xs w hown hBw hlim

set_option maxHeartbeats 1600000 in
set_option maxRecDepth 100000 in
theorem walk (k : Int) (s : ByteArray) (a o l : Int) (ha0 : 0 ≤ a) (ha : a ≤ 18446744073709551615) (ho0 : 0 ≤ o) (ho : o ≤ 18446744073709551615) (hl0 : 0 ≤ l) (hl : l ≤ 18446744073709551615) (w : World) (hs : s.size ≤ 4096) :
    Calls Yba.prog 3 #[.int .u8 k, .string s, .int .u64 a, .int .u64 o, .int .u64 l] w fun e w' => e = .returned (.bool true) ∧ Below w.heap.size w w' := by
  obtain ⟨i0, hi, hz0, hz1, hz2⟩ := info_parts info5
  go_enter Yba.func3, Yba.ntmps3
  go_wp2_with fail
  refine (unheld_any k s a o l ha0 ha ho0 ho hl0 hl hs w).mono ?_
  rintro e w1 ⟨v1, rfl, hown1, hb1⟩
  obtain ⟨g, cap, hv1, hBg, hgl, hUl, hgc, hcU⟩ := owns_form hown1 (by omega)
  subst hv1
  have hs1 := hb1.size
  clear hown1
  have HU : Hid (∀ j, j < 30 + s.size → w1.cell? ⟨g, j, none⟩ = some (.int .u8 ((unheldZ k s a o l).getD j 0))) := hcU
  clear hcU
  go_wp2_with (at_make; refine wpList_make_own _ rfl _ _ 23 rfl w1.heap.size 5 i0 (.int .u8 0) 1 Yba.underlying23 hi hz0 hz1 _ _ _ (30 + s.size) rfl rfl ?m1 ?m2 ?m3 ?m4 ?_)
  case m1 => omega
  case m2 => rw [hz2]; omega
  case m3 => unfold maxLen; omega
  case m4 => exact Nat.le_refl _
  intro w2 hown2 hgr2
  have hb2 : Below w1.heap.size w1 w2 := (Below.refl _ _).grown hgr2 (Nat.le_refl _) (fun k hk => by simp at hk)
  have hs2 := hb2.size
  clear hgr2
  go_wp2_with fail
  refine (abe_at w1.heap.size 0 4 4 rfl _ (by omega) (by omega) (by omega) _ [] _ hown2 hs2 (by omega)).mono ?_
  rintro e w3 ⟨v3, rfl, hown3, hb3'⟩
  have hb3 : Below w1.heap.size w1 w3 := hb2.trans hb3'
  have hs3 := hb3.size
  clear hb3' hb2 hs2 hown2
  go_wp2_with (at_builtin; refine wpList_append_own _ rfl (.tmp 36) (.tmp 41) 23 rfl w1.heap.size 5 i0 (.int .u8 0) 1 1 Yba.underlying23 hi hz0 hz1 hz2 rfl (by decide) _ _ _ rfl (hown3.alloc _) _ 2 2 (bc [k, (s.size : Int) % 256]) rfl rfl ?c1 (bc_one _) ?c3 ?c4 ?c5 ?_)
  case c1 =>
    intro j u hj
    match j, hj with
    | 0, hj => simp [bc] at hj; subst hj; simp [Addr.add]
    | 1, hj => simp [bc] at hj; subst hj; simp [Addr.add]
  case c3 => unfold maxLen; omega
  case c4 => omega
  case c5 => simp; omega
  intro v4 w4 hown4 hgr4 _
  have hb4 : Below w1.heap.size w1 w4 := (hb3.alloc hs3 _).grown hgr4 (by simp; omega) (fun k hk => (hown3.lt k hk).1)
  have hs4 := hb4.size
  clear hgr4 hb3 hs3 hown3
  go_wp2_with (at_builtin; refine Lib.wpList_append_own_string _ rfl (.tmp 43) (.tmp 44) 23 9 rfl w1.heap.size 5 i0 Yba.underlying23 Yba.underlying9 hi hz0 hz1 hz2 _ _ _ rfl hown4 s rfl ?d1 ?d2 ?d3 ?_)
  case d1 => unfold maxLen; omega
  case d2 => omega
  case d3 => omega
  intro v5 w5 hown5 hgr5 _
  have hb5 : Below w1.heap.size w1 w5 := hb4.grown hgr5 hs4 (fun k hk => (hown4.lt k hk).1)
  have hs5 := hb5.size
  clear hgr5 hb4 hs4 hown4
  go_wp2_with fail
  refine (abe_at w1.heap.size _ 8 8 rfl a ha0 ha (by omega) _ _ _ hown5 hs5 (by omega)).mono ?_
  rintro e w6 ⟨v6, rfl, hown6, hb6'⟩
  have hb6 : Below w1.heap.size w1 w6 := hb5.trans hb6'
  have hs6 := hb6.size
  clear hb6' hb5 hs5 hown5
  go_wp2_with fail
  refine (abe_at w1.heap.size _ 8 8 rfl o ho0 ho (by omega) _ _ _ hown6 hs6 (by omega)).mono ?_
  rintro e w7 ⟨v7, rfl, hown7, hb7'⟩
  have hb7 : Below w1.heap.size w1 w7 := hb6.trans hb7'
  have hs7 := hb7.size
  clear hb7' hb6 hs6 hown6
  go_wp2_with fail
  refine (abe_at w1.heap.size _ 8 8 rfl l hl0 hl (by omega) _ _ _ hown7 hs7 (by omega)).mono ?_
  rintro e w8 ⟨v8, rfl, hown8, hb8'⟩
  have hb8 : Below w1.heap.size w1 w8 := hb7.trans hb8'
  have hs8 := hb8.size
  clear hb8' hb7 hs7 hown7
  have hW : w8.ownsRow w1.heap.size 5 1 v8 (30 + s.size) (bc (unheldZ k s a o l)) := by
    have e1 : 0 + 4 + 2 + s.size + 8 + 8 + 8 = 30 + s.size := by omega
    have e2 : (2 : Int) + (s.size : Int) + 24 = 26 + s.size := by omega
    rw [e1, e2, strCells_eq] at hown8
    simpa [unheldZ, bc] using hown8
  clear hown8
  obtain ⟨h, cap2, hv8, hBh, hhl, _, hhc, hcW⟩ := owns_form hW (by omega)
  subst hv8
  clear hW
  have HW : Hid (∀ j, j < 30 + s.size → w8.cell? ⟨h, j, none⟩ = some (.int .u8 ((unheldZ k s a o l).getD j 0))) := hcW
  have HG : Hid (∀ j, j < 30 + s.size → w8.cell? ⟨g, j, none⟩ = some (.int .u8 ((unheldZ k s a o l).getD j 0))) := fun j hj => (hb8.cell (p := ⟨g, j, none⟩) hgl).trans (HU.out j hj)
  have hB : Below w.heap.size w w8 := hb1.trans (hb8.mono hs1)
  clear hcW HU hb8 hb1
  go_wp2_with fail
  go_loopw [14] (fun i wr => ∃ (j nq : Nat), j ≤ 30 + s.size ∧ i = .int .i64 j ∧ wr = w8.drewN nq) (fun i _ => 30 + s.size - (intOf i).toNat)
  case atStart => exact ⟨0, 0, Nat.zero_le _, rfl, rfl⟩
  case round =>
    obtain ⟨j, nq, hj, rfl, rfl⟩ := hrel
    by_cases hlt : j < 30 + s.size
    · have x1 := HW.out j hlt
      have x2 := HG.out j hlt
      obtain ⟨z, hz⟩ : ∃ z, z = (unheldZ k s a o l).getD j 0 := ⟨_, rfl⟩
      rw [← hz] at x1 x2
      clear hz
      have hlt' : (j : Int) < ((30 + s.size : Nat) : Int) := by omega
      go_wp2_with fail
      go_quiet (fail)
      go_wp2_with fail
      exact ⟨⟨j + 1, _, by omega, by go_num, rfl⟩, by simp [intOf]; omega⟩
    · go_wp2_with fail
      go_ret
      exact ⟨rfl, below_drewN hB _⟩
end Go.Proofs.Ybulkakzq.LawA
