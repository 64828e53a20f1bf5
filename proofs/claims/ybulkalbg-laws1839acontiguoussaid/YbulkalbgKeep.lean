/-
  (*parser).keep: its contract.
-/
import Derived.Test.YbulkalbgBuilder
import Derived.Deep.RegionWith
import Derived.Lib.Strings
namespace Go.Proofs.Ybulkalbg.Keep
open Go.RowKit Blocks Builder
set_option linter.unusedVariables false
set_option maxRecDepth 100000

theorem PB.drew {w : World} {p B : Nat} {src : ByteArray} {e : Int} {l : List UInt8} (h : PB w p B src e l) : PB w.drew p B src e l := h

theorem PB.put_end {w : World} {p B : Nat} {src : ByteArray} {e : Int} {l : List UInt8} (h : PB w p B src e l) (e' : Int) : PB (w.setCell ⟨p, 1053, none⟩ (.int .i64 e')) p B src e' l := by
  obtain ⟨a, buf, hp, ha, hown, hnil, hpB, hBw⟩ := h
  exact ⟨a, buf, by rw [blk_set hp, pc_set_end], ha, ownsRow_setCell_below hown hpB _, hnil, hpB, by simpa using hBw⟩

theorem PB.cells {w : World} {p B : Nat} {src : ByteArray} {e : Int} {l : List UInt8} (h : PB w p B src e l) :
    w.cell? ⟨p, 0, none⟩ = some (.string src) ∧ w.cell? ⟨p, 1053, none⟩ = some (.int .i64 e) ∧ w.frozen? ⟨p, 1053, none⟩ = false := by
  obtain ⟨a, buf, hp, _⟩ := h
  exact ⟨(blk_cell hp 0).trans (pc_src _ _ _ _), (blk_cell hp 1053).trans (pc_end _ _ _ _), blk_free hp _⟩

set_option maxHeartbeats 1000000 in
theorem keep_near (p B o n : Nat) (src : ByteArray) (e : Int) (l : List UInt8) (w : World) (h : PB w p B src e l) (hon : o ≤ n) (hn : n ≤ src.size) (hsrc : src.size ≤ 140737488351232) (hl : l.length + (n - o) ≤ 140737488355328 + 1000000) (hle : ¬ e < (o : Int)) :
    Calls Yba.prog 6 #[.pointer (some ⟨p, 0, none⟩), .int .i64 o, .int .i64 n] w fun e' w' => e' = .returned (.tuple #[]) ∧ PB w' p B src n (l ++ (src.extract o n).data.toList) ∧ Fr B (fun k => k = p) w w' := by
  obtain ⟨c0, c1, z1⟩ := PB.cells h
  have hC := writeString_any p B src e l (src.extract o n) w.drew h (by simp; omega) (by simp; omega)
  go_enter Yba.func6, Yba.ntmps6
  go_wp2
  go_region_with (go_at_call 5; refine hC.mono ?_; rintro e' w2 ⟨rfl, h2, hf2⟩)
  have hf : Fr B (fun k => k = p) w w2 := (Fr.refl B _ w).drew.trans hf2
  clear hC hf2
  obtain ⟨d0, d1, y1⟩ := PB.cells h2
  go_wp2
  go_end0
  exact ⟨rfl, PB.put_end h2 _, hf.setIn (b := p) rfl _ _⟩

set_option maxHeartbeats 1000000 in
theorem keep_far (p B o n : Nat) (src : ByteArray) (e : Int) (l : List UInt8) (w : World) (h : PB w p B src e l) (hon : o ≤ n) (hn : n ≤ src.size) (hsrc : src.size ≤ 140737488351232) (hl0 : l.length + 1 ≤ 140737488355328) (hl : l.length + 1 + (n - o) ≤ 140737488355328 + 1000000) (hlt : e < (o : Int)) :
    Calls Yba.prog 6 #[.pointer (some ⟨p, 0, none⟩), .int .i64 o, .int .i64 n] w fun e' w' => e' = .returned (.tuple #[]) ∧ PB w' p B src n (l ++ [32] ++ (src.extract o n).data.toList) ∧ Fr B (fun k => k = p) w w' := by
  obtain ⟨c0, c1, z1⟩ := PB.cells h
  go_enter Yba.func6, Yba.ntmps6
  go_wp2_with fail
  refine (writeByte_any p B src e l 32 w h hl0).mono ?_
  rintro e' w1 ⟨rfl, h1, hf1⟩
  obtain ⟨d0, d1, y1⟩ := PB.cells h1
  have hC := writeString_any p B src e (l ++ [32]) (src.extract o n) w1.drew h1 (by simp; omega) (by simp; omega)
  go_wp2
  go_region_with (go_at_call 5; refine hC.mono ?_; rintro e' w2 ⟨rfl, h2, hf2⟩)
  have hf : Fr B (fun k => k = p) w w2 := hf1.drew.trans hf2
  clear hC hf2
  obtain ⟨d0, d1, y1⟩ := PB.cells h2
  go_wp2
  go_end0
  exact ⟨rfl, PB.put_end h2 _, hf.setIn (b := p) rfl _ _⟩
end Go.Proofs.Ybulkalbg.Keep
