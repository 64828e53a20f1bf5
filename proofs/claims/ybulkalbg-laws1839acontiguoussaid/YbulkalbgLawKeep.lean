/-
  LawS1839AKeep: the walk.
-/
import Derived.Test.YbulkalbgKeep
namespace Go.Proofs.Ybulkalbg.LawKeep
open Go.RowKit Blocks Builder Keep
set_option linter.unusedVariables false
set_option maxRecDepth 100000

/-- A parser that has just been made. -/
theorem PB.made (w : World) (src : ByteArray) (e : Int) : PB (w.alloc (.cells (pc src e (.pointer none) (.slice none 0 0)) 48)) w.heap.size (w.heap.size + 1) src e [] :=
  ⟨_, _, heap_alloc_new _ _, .inl rfl, World.ownsRow_nil _ _ _ _, fun _ => rfl, by omega, by simp⟩

theorem wpList_build2 {w : World} {ops : Array Oper} {rest : List Oper} {o : Oper} {a : Act} {Q : Exit → Act → World → Prop} (hgd : o.guard = none) (x y : Operand) (ho : o.op = Op.build 48 #[(0, x), (6, y)]) (src : ByteArray) (pend : Int) (hx : a.eval x = .string src) (hy : a.eval y = .int .i64 pend)
    (h : wpList Yba.prog ops Q rest (a.put o.dst (.agg (pc src pend (.pointer none) (.slice none 0 0)))) w) : wpList Yba.prog ops Q (o :: rest) a w := by
  refine wpList_plain hgd fun K hK => ?_
  unfold Oper.wp execOp
  simp only [ho, Sem.run_bind, Sem.run_pure, Result.andThen_ok, List.map_toArray, List.map_cons, List.map_nil, hx, hy, build_two]
  exact hK _ _ h

theorem wpList_build1 {w : World} {ops : Array Oper} {rest : List Oper} {o : Oper} {a : Act} {Q : Exit → Act → World → Prop} (hgd : o.guard = none) (x : Operand) (ho : o.op = Op.build 48 #[(0, x)]) (src : ByteArray) (hx : a.eval x = .string src)
    (h : wpList Yba.prog ops Q rest (a.put o.dst (.agg (pc src 0 (.pointer none) (.slice none 0 0)))) w) : wpList Yba.prog ops Q (o :: rest) a w := by
  refine wpList_plain hgd fun K hK => ?_
  unfold Oper.wp execOp
  simp only [ho, Sem.run_bind, Sem.run_pure, Result.andThen_ok, List.map_toArray, List.map_cons, List.map_nil, hx, build_one]
  exact hK _ _ h

set_option maxHeartbeats 1000000 in
theorem walk_00 (src pre : ByteArray) (a b pend : Int) (ha0 : 0 ≤ a) (ha : a ≤ 65535) (hb0 : 0 ≤ b) (hb : b ≤ 65535) (hs : src.size ≤ 140737488351232) (hp : pre.size ≤ 140737488351232) (w : World)
    (A B : Nat) (hA : a % ((src.size : Int) + 1) = (A : Int)) (hB : b % ((src.size : Int) + 1) = (B : Int)) (hA1 : A ≤ src.size) (hA2 : A ≤ 65535) (hB1 : B ≤ src.size) (hB2 : B ≤ 65535) (h1 : ¬ b % ((src.size : Int) + 1) < a % ((src.size : Int) + 1)) (h2 : ¬ pend < (A : Int)) :
    Calls Yba.prog 3 #[.string src, .int .u16 a, .int .u16 b, .int .i64 pend, .string pre] w fun e w' => e = .returned (.bool true) ∧ Below w.heap.size w w' := by
  have hon : A ≤ B := by omega
  have HA : Hid (a % ((src.size : Int) + 1) = (A : Int)) := hA
  have HB : Hid (b % ((src.size : Int) + 1) = (B : Int)) := hB
  have hl1 : pre.data.toList.length = pre.size := rfl
  clear hA hB
  go_enter Yba.func3, Yba.ntmps3
  go_wp2_with (refine wpList_build2 rfl (.tmp 33) (.tmp 34) rfl src pend rfl rfl ?_)
  rw [HA.out, HB.out]
  clear h1
  refine (writeString_any w.heap.size (w.heap.size + 1) src pend [] pre _ (PB.made w src pend) (by omega) (by simp; omega)).mono ?_
  rintro e w1 ⟨rfl, hP1, hf1⟩
  rw [List.nil_append] at hP1
  go_wp2_with fail
  refine (keep_near w.heap.size (w.heap.size + 1) A B src pend pre.data.toList w1 hP1 hon (by omega) hs (by rw [hl1]; omega) (by omega)).mono ?_
  rintro e w2 ⟨rfl, hP2, hf2⟩
  have hfr : Fr (w.heap.size + 1) (fun k => k = w.heap.size) (w.alloc (Obj.cells (pc src pend (.pointer none) (.slice none 0 0)) 48)) w2 := hf1.trans hf2
  clear hP1 hf1 hf2 hl1
  obtain ⟨c0, c1, _⟩ := PB.cells hP2
  have HS : Hid ((⟨(pre.data.toList ++ (src.extract A B).data.toList).toArray⟩ : ByteArray) = (pre ++ src.extract A B)) := by
    apply ByteArray.ext
    simp
  go_wp2_with fail
  refine (string_any w.heap.size (w.heap.size + 1) src _ _ w2 hP2).mono ?_
  rintro e w3 ⟨rfl, hb3⟩
  rw [HS.out]
  have d0 : w3.cell? ⟨w.heap.size, 0, none⟩ = some (.string src) := (hb3.cell (p := ⟨w.heap.size, 0, none⟩) (by simp)).trans c0
  have d1 : w3.cell? ⟨w.heap.size, 1053, none⟩ = some (.int .i64 (B : Int)) := (hb3.cell (p := ⟨w.heap.size, 1053, none⟩) (by simp)).trans c1
  have HB3 : Hid (Below w.heap.size w w3) := ((Below.refl _ w).alloc (Nat.le_refl _) _).trans ((hfr.below (by omega) (fun k hk => by omega)).trans (hb3.mono (by omega)))
  clear hfr hb3 hP2 c0 c1 HS
  go_wp2_with fail
  go_ret
  exact ⟨rfl, HB3.out⟩

set_option maxHeartbeats 1000000 in
theorem walk_01 (src pre : ByteArray) (a b pend : Int) (ha0 : 0 ≤ a) (ha : a ≤ 65535) (hb0 : 0 ≤ b) (hb : b ≤ 65535) (hs : src.size ≤ 140737488351232) (hp : pre.size ≤ 140737488351232) (w : World)
    (A B : Nat) (hA : a % ((src.size : Int) + 1) = (A : Int)) (hB : b % ((src.size : Int) + 1) = (B : Int)) (hA1 : A ≤ src.size) (hA2 : A ≤ 65535) (hB1 : B ≤ src.size) (hB2 : B ≤ 65535) (h1 : ¬ b % ((src.size : Int) + 1) < a % ((src.size : Int) + 1)) (h2 : pend < (A : Int)) :
    Calls Yba.prog 3 #[.string src, .int .u16 a, .int .u16 b, .int .i64 pend, .string pre] w fun e w' => e = .returned (.bool true) ∧ Below w.heap.size w w' := by
  have hon : A ≤ B := by omega
  have HA : Hid (a % ((src.size : Int) + 1) = (A : Int)) := hA
  have HB : Hid (b % ((src.size : Int) + 1) = (B : Int)) := hB
  have hl1 : pre.data.toList.length = pre.size := rfl
  clear hA hB
  go_enter Yba.func3, Yba.ntmps3
  go_wp2_with (refine wpList_build2 rfl (.tmp 33) (.tmp 34) rfl src pend rfl rfl ?_)
  rw [HA.out, HB.out]
  clear h1
  refine (writeString_any w.heap.size (w.heap.size + 1) src pend [] pre _ (PB.made w src pend) (by omega) (by simp; omega)).mono ?_
  rintro e w1 ⟨rfl, hP1, hf1⟩
  rw [List.nil_append] at hP1
  go_wp2_with fail
  refine (keep_far w.heap.size (w.heap.size + 1) A B src pend pre.data.toList w1 hP1 hon (by omega) hs (by rw [hl1]; omega) (by rw [hl1]; omega) (by omega)).mono ?_
  rintro e w2 ⟨rfl, hP2, hf2⟩
  have hfr : Fr (w.heap.size + 1) (fun k => k = w.heap.size) (w.alloc (Obj.cells (pc src pend (.pointer none) (.slice none 0 0)) 48)) w2 := hf1.trans hf2
  clear hP1 hf1 hf2 hl1
  obtain ⟨c0, c1, _⟩ := PB.cells hP2
  have HS : Hid ((⟨(pre.data.toList ++ [32] ++ (src.extract A B).data.toList).toArray⟩ : ByteArray) = ((pre ++ ⟨#[32]⟩) ++ src.extract A B)) := by
    apply ByteArray.ext
    simp
  go_wp2_with fail
  refine (string_any w.heap.size (w.heap.size + 1) src _ _ w2 hP2).mono ?_
  rintro e w3 ⟨rfl, hb3⟩
  rw [HS.out]
  have d0 : w3.cell? ⟨w.heap.size, 0, none⟩ = some (.string src) := (hb3.cell (p := ⟨w.heap.size, 0, none⟩) (by simp)).trans c0
  have d1 : w3.cell? ⟨w.heap.size, 1053, none⟩ = some (.int .i64 (B : Int)) := (hb3.cell (p := ⟨w.heap.size, 1053, none⟩) (by simp)).trans c1
  have HB3 : Hid (Below w.heap.size w w3) := ((Below.refl _ w).alloc (Nat.le_refl _) _).trans ((hfr.below (by omega) (fun k hk => by omega)).trans (hb3.mono (by omega)))
  clear hfr hb3 hP2 c0 c1 HS
  go_wp2_with fail
  go_ret
  exact ⟨rfl, HB3.out⟩

set_option maxHeartbeats 1000000 in
theorem walk_10 (src pre : ByteArray) (a b pend : Int) (ha0 : 0 ≤ a) (ha : a ≤ 65535) (hb0 : 0 ≤ b) (hb : b ≤ 65535) (hs : src.size ≤ 140737488351232) (hp : pre.size ≤ 140737488351232) (w : World)
    (A B : Nat) (hA : a % ((src.size : Int) + 1) = (A : Int)) (hB : b % ((src.size : Int) + 1) = (B : Int)) (hA1 : A ≤ src.size) (hA2 : A ≤ 65535) (hB1 : B ≤ src.size) (hB2 : B ≤ 65535) (h1 : b % ((src.size : Int) + 1) < a % ((src.size : Int) + 1)) (h2 : ¬ pend < (B : Int)) :
    Calls Yba.prog 3 #[.string src, .int .u16 a, .int .u16 b, .int .i64 pend, .string pre] w fun e w' => e = .returned (.bool true) ∧ Below w.heap.size w w' := by
  have hon : B ≤ A := by omega
  have HA : Hid (a % ((src.size : Int) + 1) = (A : Int)) := hA
  have HB : Hid (b % ((src.size : Int) + 1) = (B : Int)) := hB
  have hl1 : pre.data.toList.length = pre.size := rfl
  clear hA hB
  go_enter Yba.func3, Yba.ntmps3
  go_wp2_with (refine wpList_build2 rfl (.tmp 33) (.tmp 34) rfl src pend rfl rfl ?_)
  rw [HA.out, HB.out]
  clear h1
  refine (writeString_any w.heap.size (w.heap.size + 1) src pend [] pre _ (PB.made w src pend) (by omega) (by simp; omega)).mono ?_
  rintro e w1 ⟨rfl, hP1, hf1⟩
  rw [List.nil_append] at hP1
  go_wp2_with fail
  refine (keep_near w.heap.size (w.heap.size + 1) B A src pend pre.data.toList w1 hP1 hon (by omega) hs (by rw [hl1]; omega) (by omega)).mono ?_
  rintro e w2 ⟨rfl, hP2, hf2⟩
  have hfr : Fr (w.heap.size + 1) (fun k => k = w.heap.size) (w.alloc (Obj.cells (pc src pend (.pointer none) (.slice none 0 0)) 48)) w2 := hf1.trans hf2
  clear hP1 hf1 hf2 hl1
  obtain ⟨c0, c1, _⟩ := PB.cells hP2
  have HS : Hid ((⟨(pre.data.toList ++ (src.extract B A).data.toList).toArray⟩ : ByteArray) = (pre ++ src.extract B A)) := by
    apply ByteArray.ext
    simp
  go_wp2_with fail
  refine (string_any w.heap.size (w.heap.size + 1) src _ _ w2 hP2).mono ?_
  rintro e w3 ⟨rfl, hb3⟩
  rw [HS.out]
  have d0 : w3.cell? ⟨w.heap.size, 0, none⟩ = some (.string src) := (hb3.cell (p := ⟨w.heap.size, 0, none⟩) (by simp)).trans c0
  have d1 : w3.cell? ⟨w.heap.size, 1053, none⟩ = some (.int .i64 (A : Int)) := (hb3.cell (p := ⟨w.heap.size, 1053, none⟩) (by simp)).trans c1
  have HB3 : Hid (Below w.heap.size w w3) := ((Below.refl _ w).alloc (Nat.le_refl _) _).trans ((hfr.below (by omega) (fun k hk => by omega)).trans (hb3.mono (by omega)))
  clear hfr hb3 hP2 c0 c1 HS
  go_wp2_with fail
  go_ret
  exact ⟨rfl, HB3.out⟩

set_option maxHeartbeats 1000000 in
theorem walk_11 (src pre : ByteArray) (a b pend : Int) (ha0 : 0 ≤ a) (ha : a ≤ 65535) (hb0 : 0 ≤ b) (hb : b ≤ 65535) (hs : src.size ≤ 140737488351232) (hp : pre.size ≤ 140737488351232) (w : World)
    (A B : Nat) (hA : a % ((src.size : Int) + 1) = (A : Int)) (hB : b % ((src.size : Int) + 1) = (B : Int)) (hA1 : A ≤ src.size) (hA2 : A ≤ 65535) (hB1 : B ≤ src.size) (hB2 : B ≤ 65535) (h1 : b % ((src.size : Int) + 1) < a % ((src.size : Int) + 1)) (h2 : pend < (B : Int)) :
    Calls Yba.prog 3 #[.string src, .int .u16 a, .int .u16 b, .int .i64 pend, .string pre] w fun e w' => e = .returned (.bool true) ∧ Below w.heap.size w w' := by
  have hon : B ≤ A := by omega
  have HA : Hid (a % ((src.size : Int) + 1) = (A : Int)) := hA
  have HB : Hid (b % ((src.size : Int) + 1) = (B : Int)) := hB
  have hl1 : pre.data.toList.length = pre.size := rfl
  clear hA hB
  go_enter Yba.func3, Yba.ntmps3
  go_wp2_with (refine wpList_build2 rfl (.tmp 33) (.tmp 34) rfl src pend rfl rfl ?_)
  rw [HA.out, HB.out]
  clear h1
  refine (writeString_any w.heap.size (w.heap.size + 1) src pend [] pre _ (PB.made w src pend) (by omega) (by simp; omega)).mono ?_
  rintro e w1 ⟨rfl, hP1, hf1⟩
  rw [List.nil_append] at hP1
  go_wp2_with fail
  refine (keep_far w.heap.size (w.heap.size + 1) B A src pend pre.data.toList w1 hP1 hon (by omega) hs (by rw [hl1]; omega) (by rw [hl1]; omega) (by omega)).mono ?_
  rintro e w2 ⟨rfl, hP2, hf2⟩
  have hfr : Fr (w.heap.size + 1) (fun k => k = w.heap.size) (w.alloc (Obj.cells (pc src pend (.pointer none) (.slice none 0 0)) 48)) w2 := hf1.trans hf2
  clear hP1 hf1 hf2 hl1
  obtain ⟨c0, c1, _⟩ := PB.cells hP2
  have HS : Hid ((⟨(pre.data.toList ++ [32] ++ (src.extract B A).data.toList).toArray⟩ : ByteArray) = ((pre ++ ⟨#[32]⟩) ++ src.extract B A)) := by
    apply ByteArray.ext
    simp
  go_wp2_with fail
  refine (string_any w.heap.size (w.heap.size + 1) src _ _ w2 hP2).mono ?_
  rintro e w3 ⟨rfl, hb3⟩
  rw [HS.out]
  have d0 : w3.cell? ⟨w.heap.size, 0, none⟩ = some (.string src) := (hb3.cell (p := ⟨w.heap.size, 0, none⟩) (by simp)).trans c0
  have d1 : w3.cell? ⟨w.heap.size, 1053, none⟩ = some (.int .i64 (A : Int)) := (hb3.cell (p := ⟨w.heap.size, 1053, none⟩) (by simp)).trans c1
  have HB3 : Hid (Below w.heap.size w w3) := ((Below.refl _ w).alloc (Nat.le_refl _) _).trans ((hfr.below (by omega) (fun k hk => by omega)).trans (hb3.mono (by omega)))
  clear hfr hb3 hP2 c0 c1 HS
  go_wp2_with fail
  go_ret
  exact ⟨rfl, HB3.out⟩

theorem emod_le (a m : Int) (ha : 0 ≤ a) (hm : 0 < m) : a % m ≤ a := by
  have h1 := Int.mul_ediv_add_emod a m
  have h2 : 0 ≤ m * (a / m) := Int.mul_nonneg (Int.le_of_lt hm) (Int.ediv_nonneg ha (Int.le_of_lt hm))
  omega

theorem walk (src pre : ByteArray) (a b pend : Int) (ha0 : 0 ≤ a) (ha : a ≤ 65535) (hb0 : 0 ≤ b) (hb : b ≤ 65535) (hs : src.size ≤ 140737488351232) (hp : pre.size ≤ 140737488351232) (w : World) :
    Calls Yba.prog 3 #[.string src, .int .u16 a, .int .u16 b, .int .i64 pend, .string pre] w fun e w' => e = .returned (.bool true) ∧ Below w.heap.size w w' := by
  have hpos : (0 : Int) < (src.size : Int) + 1 := by omega
  have a1 := Int.emod_nonneg a (Int.ne_of_gt hpos)
  have a2 := Int.emod_lt_of_pos a hpos
  have b1 := Int.emod_nonneg b (Int.ne_of_gt hpos)
  have b2 := Int.emod_lt_of_pos b hpos
  have a3 : a % ((src.size : Int) + 1) ≤ a := emod_le a _ ha0 hpos
  have b3 : b % ((src.size : Int) + 1) ≤ b := emod_le b _ hb0 hpos
  obtain ⟨A, hA⟩ : ∃ A : Nat, a % ((src.size : Int) + 1) = (A : Int) := ⟨(a % ((src.size : Int) + 1)).toNat, by omega⟩
  obtain ⟨B, hB⟩ : ∃ B : Nat, b % ((src.size : Int) + 1) = (B : Int) := ⟨(b % ((src.size : Int) + 1)).toNat, by omega⟩
  by_cases h1 : b % ((src.size : Int) + 1) < a % ((src.size : Int) + 1)
  · by_cases h2 : pend < (B : Int)
    · exact walk_11 src pre a b pend ha0 ha hb0 hb hs hp w A B hA hB (by omega) (by omega) (by omega) (by omega) h1 h2
    · exact walk_10 src pre a b pend ha0 ha hb0 hb hs hp w A B hA hB (by omega) (by omega) (by omega) (by omega) h1 h2
  · by_cases h2 : pend < (A : Int)
    · exact walk_01 src pre a b pend ha0 ha hb0 hb hs hp w A B hA hB (by omega) (by omega) (by omega) (by omega) h1 h2
    · exact walk_00 src pre a b pend ha0 ha hb0 hb hs hp w A B hA hB (by omega) (by omega) (by omega) (by omega) h1 h2

end Go.Proofs.Ybulkalbg.LawKeep
