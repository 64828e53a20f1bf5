/-
  loopedBack: where the packet does not leave by lo, the route as it was; else the chains of raw's PREROUTING and filter's INPUT behind it.
-/
import Derived.Test.YbulkalbgFmtJoin
import Derived.Handy
namespace Go.Proofs.YbulkalbgFmt.Looped
open Go.RowKit Blocks Mem Reads Back Chains Errf Join
open Go.Extern.Stop Go.Stop Go.Extern
set_option linter.unusedVariables false
set_option maxRecDepth 100000

def sLO : ByteArray := ⟨#[108, 111]⟩

theorem ix (w : World) : (Instr.index 56 (.agg #[.string ⟨#[80, 82, 69, 82, 79, 85, 84, 73, 78, 71]⟩, .string ⟨#[73, 78, 80, 85, 84]⟩]) (.int .i64 0)).run Ybaf.prog w = .ok (.string ⟨#[80, 82, 69, 82, 79, 85, 84, 73, 78, 71]⟩) w := by kernel_rfl

abbrev sl (b : Nat) : Value := .slice (some ⟨b, 0, none⟩) 1 1

set_option maxHeartbeats 4000000 in
theorem loop_no (fw b1 b2 b3 : Nat) (fo ao : ByteArray) (w : World) (h : ao ≠ sLO) :
    Calls Ybaf.prog 4 #[ptr fw, .agg #[sl b1, sl b2, sl b3, .string fo, .string ao]] w fun e w' => e = .returned (.tuple #[.agg #[sl b1, sl b2, sl b3, .string fo, .string ao], .nilIface]) ∧ Below w.heap.size w w' := by
  have hne : (ao.toList == [108, 111]) = false := by
    have := (Lib.bytes_beq_false_iff ao sLO).2 h
    rwa [show sLO.toList = [108, 111] by rw [ByteArray.toList_eq]; rfl] at this
  show Calls Ybaf.prog 4 #[.pointer (some ⟨fw, 0, none⟩), .agg #[.slice (some ⟨b1, 0, none⟩) 1 1, .slice (some ⟨b2, 0, none⟩) 1 1, .slice (some ⟨b3, 0, none⟩) 1 1, .string fo, .string ao]] w _
  go_enter Ybaf.func4, Ybaf.ntmps4
  go_wp2
  go_returns
  exact ⟨rfl, ((Below.refl _ w).alloc (Nat.le_refl _) _).alloc (by simp) _⟩

set_option maxHeartbeats 4000000 in
theorem loop_lo (F : Interp) (fw b1 b2 b3 n cap : Nat) (ao : Option Addr) (M : List (Nat × Obj)) (ds : List D) (fo : ByteArray) (w : World) (hF : F.answers w.tape) (hn : n = ds.length) (hlen : ds.length ≤ 256) (h0 : w.cell? ⟨fw, 0, none⟩ = some (.slice ao n cap)) (h4 : w.cell? ⟨fw, 4, none⟩ = some (.pointer none)) (hW : Holds w M) (bm : Nat) (hc0 : w.cell? ⟨0, 0, none⟩ = some (.map (some bm))) (hlook : ∀ w', Below w.heap.size w w' → (Instr.lookup 57 (.map (some bm)) (.string sIN) false).run Ybaf.prog w' = .ok (.agg #[.string sPRE, .string sIN]) w')
    (hb : ∀ d ∈ ds, IsBack M d) (hc : ∀ (j : Nat) (d : D), ds[j]? = some d → ∃ bb, ao = some ⟨bb, 0, none⟩ ∧ w.cell? ⟨bb, j, none⟩ = some (ptr d.rs) ∧ bb < w.heap.size) :
    Calls Ybaf.prog 4 #[ptr fw, .agg #[sl b1, sl b2, sl b3, .string fo, .string sLO]] w fun e w' => ∃ v err, e = .returned (.tuple #[.agg #[sl b1, sl b2, v, .string fo, .string sLO], err]) ∧ Below w.heap.size w w' ∧ w'.ownsRow w.heap.size 25 1 v (pres ds ++ ins ds).length (pres ds ++ ins ds) ∧ Err ds err := by
  have hwlt : fw < w.heap.size := block_lt_of_cell h0
  have bA : Hid (Below w.heap.size w ((w.alloc (.cells #[sl b1, sl b2, sl b3, .string fo, .string sLO] 46 (0, 0))).alloc (.cells #[.slice none 0 0, .slice none 0 0, .slice none 0 0, .string ⟨#[]⟩, .string ⟨#[]⟩] 46 (0, 0)))) := ((Below.refl _ w).alloc (Nat.le_refl _) _).alloc (by simp) _
  have hC := filters_any F fw n cap ao M ds _ (bA.out.tape ▸ hF) hn hlen ((bA.out.cell (p := ⟨fw, 0, none⟩) hwlt).trans h0) ((bA.out.cell (p := ⟨fw, 4, none⟩) hwlt).trans h4) (hW.below bA.out) hb (fun j d hj => by
    obtain ⟨bb, h1, h2, h3⟩ := hc j d hj
    exact ⟨bb, h1, (bA.out.cell (p := ⟨bb, j, none⟩) h3).trans h2, Nat.lt_of_lt_of_le h3 bA.out.size⟩)
  have HC : Hid (∀ (j : Nat) (d : D), ds[j]? = some d → ∃ bb, ao = some ⟨bb, 0, none⟩ ∧ w.cell? ⟨bb, j, none⟩ = some (ptr d.rs) ∧ bb < w.heap.size) := hc
  have HN : Hid (n = ds.length) := hn
  have H0 : Hid (w.cell? ⟨fw, 0, none⟩ = some (.slice ao n cap)) := h0
  have HB : Hid (∀ d ∈ ds, IsBack M d) := hb
  have HW : Hid (Holds w M) := hW
  have HK : Hid (∀ w', Below w.heap.size w w' → (Instr.lookup 57 (.map (some bm)) (.string sIN) false).run Ybaf.prog w' = .ok (.agg #[.string sPRE, .string sIN]) w') := hlook
  have hclt := block_lt_of_cell hc0
  obtain ⟨i0, hi, hz0, hz1, hz2⟩ := info_parts info25
  clear hc hn h0 h4 hb hW hlook
  show Calls Ybaf.prog 4 #[.pointer (some ⟨fw, 0, none⟩), .agg #[.slice (some ⟨b1, 0, none⟩) 1 1, .slice (some ⟨b2, 0, none⟩) 1 1, .slice (some ⟨b3, 0, none⟩) 1 1, .string fo, .string ⟨#[108, 111]⟩]] w _
  go_enter Ybaf.func4, Ybaf.ntmps4
  go_wp2_with fail
  refine hC.mono ?_
  rintro e w1 ⟨vi, err, rfl, hb1, hown1, herr⟩
  clear hC
  have b01 : Hid (Below w.heap.size w w1) := below_next bA.out bA.out.size hb1
  have hN1 : Hid (w1.heap[w.heap.size]? = some (.cells #[.slice (some ⟨b1, 0, none⟩) 1 1, .slice (some ⟨b2, 0, none⟩) 1 1, .slice (some ⟨b3, 0, none⟩) 1 1, .string fo, .string ⟨#[108, 111]⟩] 46 (0, 0))) := by
    show _ = _
    rw [hb1.block _ (by simp; omega), Below.heap_alloc _ _ _ (by simp)]; exact heap_alloc_new w _
  have hN2 : Hid (w1.heap[w.heap.size + 1]? = some (.cells #[.slice none 0 0, .slice none 0 0, .slice none 0 0, .string ⟨#[]⟩, .string ⟨#[]⟩] 46 (0, 0))) := by
    show _ = _
    rw [hb1.block _ (by simp)]
    have := heap_alloc_new (w.alloc (.cells #[sl b1, sl b2, sl b3, .string fo, .string sLO] 46 (0, 0))) (.cells #[.slice none 0 0, .slice none 0 0, .slice none 0 0, .string ⟨#[]⟩, .string ⟨#[]⟩] 46 (0, 0))
    simpa using this
  have hs1 : w.heap.size + 2 ≤ w1.heap.size := by have := hb1.size; simp at this; omega
  have HO1 : Hid (w1.ownsRow w.heap.size 25 1 vi (ins ds).length (ins ds)) := hown1.mono (by simp; omega)
  have HE : Hid (Err ds err) := herr
  have hR := chains_raw fw n cap ao M ds w1 HN.out hlen ((b01.out.cell (p := ⟨fw, 0, none⟩) hwlt).trans H0.out) (HW.out.below b01.out) HB.out (fun j d hj => by
    obtain ⟨bb, h1, h2, h3⟩ := HC.out j d hj
    exact ⟨bb, h1, (b01.out.cell (p := ⟨bb, j, none⟩) h3).trans h2, Nat.lt_of_lt_of_le h3 b01.out.size⟩)
  have hc1 : w1.cell? ⟨0, 0, none⟩ = some (.map (some bm)) := (b01.out.cell (p := ⟨0, 0, none⟩) hclt).trans hc0
  have hl1 : (Instr.lookup 57 (.map (some bm)) (.string ⟨#[73, 78, 80, 85, 84]⟩) false).run Ybaf.prog w1 = .ok (.agg #[.string ⟨#[80, 82, 69, 82, 79, 85, 84, 73, 78, 71]⟩, .string ⟨#[73, 78, 80, 85, 84]⟩]) w1 := HK.out w1 b01.out
  obtain ⟨va, vcap, hvi, _⟩ := owns_any hown1
  subst hvi
  clear hc0 hown1 herr hb1
  have hix := ix w1
  go_wp2_with fail
  refine hR.mono ?_
  rintro e w2 ⟨vr, rfl, hb2, hown2⟩
  clear hR hc1 hl1 hix
  go_wp2_with (at_builtin; refine wpList_join _ rfl (.tmp 21) (.tmp 22) 24 rfl w1.heap.size w.heap.size 25 i0 (.pointer none) 8 Ybaf.underlying24 hi hz0 hz1 hz2 rfl _ _ _ _ _ _ rfl rfl hown2 (owns_below HO1.out hb2) ?c2 ?c3 ?c4 ?c5 ?_)
  case c2 => intro u hu; simp only [ins, List.mem_map] at hu; obtain ⟨_, _, rfl⟩ := hu; rfl
  case c3 => have := pres_len ds; have := ins_len ds; unfold maxLen; omega
  case c4 => have := pres_len ds; have := ins_len ds; omega
  case c5 => exact hb2.size
  intro v3 w3 hown3 hgrow3 hat
  have b23 : Hid (Below w1.heap.size w1 w3) := hb2.grown hgrow3 hb2.size (fun k hk => (hown2.lt k hk).1)
  have b03 : Hid (Below w.heap.size w w3) := below_next b01.out b01.out.size b23.out
  have hA3 : w3.heap[w.heap.size]? = some (.cells #[.slice (some ⟨b1, 0, none⟩) 1 1, .slice (some ⟨b2, 0, none⟩) 1 1, .slice (some ⟨b3, 0, none⟩) 1 1, .string fo, .string ⟨#[108, 111]⟩] 46 (0, 0)) := by rw [b23.out.block _ (by omega)]; exact hN1.out
  have hB3 : w3.heap[w.heap.size + 1]? = some (.cells #[.slice none 0 0, .slice none 0 0, .slice none 0 0, .string ⟨#[]⟩, .string ⟨#[]⟩] 46 (0, 0)) := by rw [b23.out.block _ (by omega)]; exact hN2.out
  have HO3 : Hid (w3.ownsRow (w.heap.size + 2) 25 1 v3 (pres ds ++ ins ds).length (pres ds ++ ins ds)) := by
    show World.ownsRow _ _ _ _ _ _ _
    rw [List.length_append]
    exact hown3.mono hs1
  have a0 := blk_cell hA3 0; have a1 := blk_cell hA3 1; have a2 := blk_cell hA3 2; have a3 := blk_cell hA3 3; have a4 := blk_cell hA3 4
  have z0 := blk_cell hB3 0; have z1 := blk_cell hB3 1; have z2 := blk_cell hB3 2; have z3 := blk_cell hB3 3; have z4 := blk_cell hB3 4
  have fa := blk_free hA3; have fb := blk_free hB3
  obtain ⟨va3, vcap3, hv3, _⟩ := owns_any HO3.out
  subst hv3
  simp at a0 a1 a2 a3 a4 z0 z1 z2 z3 z4
  clear hown3 hgrow3 hat hown2 hb2 hA3 hB3
  go_wp2
  refine bodyPost_ret (v := .tuple #[.agg #[.slice (some ⟨b1, 0, none⟩) 1 1, .slice (some ⟨b2, 0, none⟩) 1 1, .slice va3 ((pres ds).length + (ins ds).length) vcap3, .string fo, .string ⟨#[108, 111]⟩], err]) ?_ rfl ?_
  · simp [results, Ybaf.results4, go_sem, z0, z1, z2, z3, z4]
  · have ho := HO3.out
    rw [List.length_append] at ho
    refine ⟨_, _, rfl, ?_, ?_, HE.out⟩
    · exact (((((b03.out.setCell (p := ⟨w.heap.size, 2, none⟩) (Nat.le_refl _) _).setCell (p := ⟨w.heap.size + 1, 0, none⟩) (Nat.le_succ _) _).setCell (p := ⟨w.heap.size + 1, 1, none⟩) (Nat.le_succ _) _).setCell (p := ⟨w.heap.size + 1, 2, none⟩) (Nat.le_succ _) _).setCell (p := ⟨w.heap.size + 1, 3, none⟩) (Nat.le_succ _) _).setCell (p := ⟨w.heap.size + 1, 4, none⟩) (Nat.le_succ _) _
    · have l0 : w.heap.size < w.heap.size + 2 := by omega
      have l1 : w.heap.size + 1 < w.heap.size + 2 := by omega
      exact World.ownsRow.mono (ownsRow_setCell_below (ownsRow_setCell_below (ownsRow_setCell_below (ownsRow_setCell_below (ownsRow_setCell_below (ownsRow_setCell_below ho l0 _) l1 _) l1 _) l1 _) l1 _) l1 _) (by omega)
end Go.Proofs.YbulkalbgFmt.Looped
