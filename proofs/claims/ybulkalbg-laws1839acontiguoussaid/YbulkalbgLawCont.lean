/-
  LawS1839AContiguous: the walk.
-/
import Derived.Test.YbulkalbgLawKeep
namespace Go.Proofs.Ybulkalbg.LawCont
open Go.RowKit Blocks Builder Keep LawKeep
set_option linter.unusedVariables false
set_option maxRecDepth 100000

theorem extract_take (src : ByteArray) (c : Nat) : (⟨(src.data.toList.take c).toArray⟩ : ByteArray) = src.extract 0 c := by
  apply ByteArray.ext
  apply Array.ext'
  simp

theorem take_more (src : ByteArray) (c n : Nat) (h : c ≤ n) : src.data.toList.take c ++ (src.extract c n).data.toList = src.data.toList.take n := by
  rw [Lib.extract_data, ← List.take_add]
  congr 1
  omega

set_option maxHeartbeats 1000000 in
theorem walk_short (src : ByteArray) (a1 : Option Addr) (len cap : Nat) (zs : List Int) (w : World) (hs : src.size ≤ 140737488351232) (hlen : len ≤ 1024) (hz : len ≤ zs.length)
    (hw : ∀ n ∈ zs, 0 ≤ n ∧ n ≤ 255) (hc : ∀ i, i < len → ∃ b off, a1 = some ⟨b, off, none⟩ ∧ b < w.heap.size ∧ w.cell? ⟨b, off + i, none⟩ = some (.int .u8 (zs.getD i 0))) :
    Calls Yba.prog 4 #[.string src, .slice a1 len cap] w fun e w' => e = .returned (.bool true) ∧ Below w.heap.size w w' := by
  have HC : Hid (∀ i, i < len → ∃ b off, a1 = some ⟨b, off, none⟩ ∧ b < w.heap.size ∧ w.cell? ⟨b, off + i, none⟩ = some (.int .u8 (zs.getD i 0))) := hc
  have HW : Hid (∀ n ∈ zs, 0 ≤ n ∧ n ≤ 255) := hw
  have hlen' : (len : Int) ≤ 1024 := by omega
  clear hc hw
  go_enter Yba.func4, Yba.ntmps4
  go_wp2_with (refine wpList_build1 rfl (.tmp 15) rfl src rfl ?_)
  go_loopw [7, 8] (fun cu i wr => ∃ (k c : Nat), k ≤ len ∧ c ≤ src.size ∧ i = .int .i64 k ∧ cu = .int .i64 c ∧ PB wr w.heap.size (w.heap.size + 1) src c (src.data.toList.take c) ∧ Fr (w.heap.size + 1) (fun j => j = w.heap.size) w wr) (fun _ i _ => len - (intOf i).toNat)
  case atStart =>
    refine ⟨0, 0, Nat.zero_le _, Nat.zero_le _, rfl, rfl, ?_, ?_⟩
    · simpa using PB.made w src 0
    · exact ⟨rfl, rfl, rfl, by simp, fun k hk hne => Below.heap_alloc w _ k (by omega)⟩
  case round =>
    obtain ⟨k, c, hk, hcs, rfl, rfl, hP, hf⟩ := hrel
    obtain ⟨d0, d1, d2⟩ := PB.cells hP
    by_cases hlt : k < len
    · obtain ⟨b, off, ha1, hbl, hcell⟩ := HC.out k hlt
      subst ha1
      obtain ⟨z, hz1⟩ : ∃ z, z = zs.getD k 0 := ⟨_, rfl⟩
      have hzb : 0 ≤ z ∧ z ≤ 255 := HW.out z (by rw [hz1]; rw [List.getD_eq_getElem?_getD, List.getElem?_eq_getElem (by omega)]; exact List.getElem_mem _)
      obtain ⟨hz0, hz255⟩ := hzb
      have hcr : wr.cell? ⟨b, off + k, none⟩ = some (.int .u8 z) := by rw [World.cell?_of_block (hf.block b (by omega) (by omega)), hz1]; exact hcell
      have hlt' : (k : Int) < (len : Int) := by omega
      clear hcell hz1
      have hll : (src.data.toList.take c).length = c := by rw [List.length_take]; exact Nat.min_eq_left hcs
      by_cases hov : (src.size : Int) < (c : Int) + z % 4
      · go_wp2_with fail
        refine (keep_near w.heap.size (w.heap.size + 1) c src.size src c _ wr hP hcs (Nat.le_refl _) hs (by rw [hll]; omega) (by omega)).mono ?_
        rintro e w2 ⟨rfl, hP2, hf2⟩
        rw [take_more src c src.size hcs] at hP2
        go_wp2_with fail
        exact ⟨⟨k + 1, src.size, by omega, Nat.le_refl _, by go_num, rfl, hP2, hf.trans hf2⟩, by simp [intOf]; omega⟩
      · obtain ⟨m, hm⟩ : ∃ m : Nat, (c : Int) + z % 4 = ((c + m : Nat) : Int) := ⟨(z % 4).toNat, by omega⟩
        have HM : Hid ((c : Int) + z % 4 = ((c + m : Nat) : Int)) := hm
        have hm1 : c + m ≤ src.size := by omega
        clear hm
        go_wp2_with fail
        rw [HM.out]
        refine (keep_near w.heap.size (w.heap.size + 1) c (c + m) src c _ wr hP (by omega) hm1 hs (by rw [hll]; omega) (by omega)).mono ?_
        rintro e w2 ⟨rfl, hP2, hf2⟩
        rw [take_more src c (c + m) (by omega)] at hP2
        go_wp2_with fail
        exact ⟨⟨k + 1, c + m, by omega, hm1, by go_num, by go_num, hP2, hf.trans hf2⟩, by simp [intOf]; omega⟩
    · have hC := string_any w.heap.size (w.heap.size + 1) src c _ wr.drew hP
      rw [extract_take] at hC
      have hB : Below w.heap.size w wr := hf.below (by omega) (fun j hj => by omega)
      go_wp2_with fail
      go_region_with (go_at_call 7; refine hC.mono ?_; rintro e w3 ⟨rfl, hb3⟩; have e1 : w3.cell? ⟨w.heap.size, 1053, none⟩ = some (.int .i64 (c : Int)) := (hb3.cell (p := ⟨w.heap.size, 1053, none⟩) (by simp)).trans d1)
      all_goals (go_wp2; go_ret; exact ⟨rfl, hB.trans (((Below.refl _ wr).drew).trans (hb3.mono (by omega)))⟩)
end Go.Proofs.Ybulkalbg.LawCont
