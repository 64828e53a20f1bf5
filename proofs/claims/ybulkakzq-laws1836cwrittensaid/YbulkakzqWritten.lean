/-
  (*chorale.queue).written: its contract.
-/
import Derived.Test.YbulkakzqQueue
namespace Go.Proofs.Ybulkakzq.Written
open Go.RowKit Go.MuLone Blocks Queue
set_option linter.unusedVariables false

/-- The room's callbacks: the t-th is the law's closure over the log and over a variable that holds t. -/
def IsRoom (w : World) (b lb : Nat) (ra : Option Addr) (k : Nat) : Prop :=
  ∀ t, t < k → ∃ g jb, ra = some ⟨g, 0, none⟩ ∧ w.cell? ⟨g, t, none⟩ = some (.func (.func 16) #[] #[.pointer (some ⟨lb, 0, none⟩), .pointer (some ⟨jb, 0, none⟩)]) ∧ w.cell? ⟨jb, 0, none⟩ = some (.int .i64 (t : Int)) ∧ jb ≠ lb ∧ jb ≠ b ∧ g ≠ lb ∧ g ≠ b

set_option maxHeartbeats 1600000 in
set_option maxRecDepth 100000 in
theorem written_full (b lb : Nat) (lim held siz n sz : Int) (fa : Option Addr) (nf fc : Nat) (room : Value) (fin : Bool) (x y z : Value) (w : World)
    (hq : w.heap[b]? = some (.cells (qc lim 0 (.slice fa nf fc) held siz room fin x y z) 140 (0, 0))) (hF : fullB lim (wrap64 (held - n)) (wrap64 (siz - sz)) = true) :
    Calls Yba.prog 17 #[.pointer (some ⟨b, 0, none⟩), .int .i64 n, .int .i64 sz] w fun e w' => e = .returned (.tuple #[.int .i64 nf, .bool fin]) ∧ Fr w.heap.size (fun j => j = b) w w' ∧ w'.heap[b]? = some (.cells (qc lim 0 (.slice fa nf fc) (wrap64 (held - n)) (wrap64 (siz - sz)) room fin x y z) 140 (0, 0)) := by
  have c1 : w.cell? ⟨b, 1, none⟩ = some (.int .i64 lim) := blk_cell hq 1
  have c2 : w.cell? ⟨b, 2, none⟩ = some (.int .i32 0) := blk_cell hq 2
  have c4 : w.cell? ⟨b, 4, none⟩ = some (.slice fa nf fc) := blk_cell hq 4
  have c5 : w.cell? ⟨b, 5, none⟩ = some (.int .i64 held) := blk_cell hq 5
  have c6 : w.cell? ⟨b, 6, none⟩ = some (.int .i64 siz) := blk_cell hq 6
  have c7 : w.cell? ⟨b, 7, none⟩ = some room := blk_cell hq 7
  have c8 : w.cell? ⟨b, 8, none⟩ = some (.bool fin) := blk_cell hq 8
  have zf : ∀ j, w.frozen? ⟨b, j, none⟩ = false := blk_free hq
  have HQ : Hid (w.heap[b]? = some (.cells (qc lim 0 (.slice fa nf fc) held siz room fin x y z) 140 (0, 0))) := hq
  clear hq
  go_enter Yba.func17, Yba.ntmps17
  go_wp2_with (go_at_call 26; refine (lock_free Locks.muLib ⟨b, 2, none⟩ _ c2 (zf 2)).mono ?_; rintro e w' ⟨rfl, rfl⟩)
  obtain ⟨W3, hW3⟩ : ∃ W3, W3 = ((w.setCell ⟨b, 2, none⟩ (.int .i32 1)).setCell ⟨b, 5, none⟩ (.int .i64 (wrap64 (held - n)))).setCell ⟨b, 6, none⟩ (.int .i64 (wrap64 (siz - sz))) := ⟨_, rfl⟩
  rw [← hW3]
  have hq3 : W3.heap[b]? = some (.cells (qc lim 1 (.slice fa nf fc) (wrap64 (held - n)) (wrap64 (siz - sz)) room fin x y z) 140 (0, 0)) := by
    rw [hW3]; exact blk_set (blk_set (blk_set HQ.out 2 _) 5 _) 6 _
  have F3 : Fr w.heap.size (fun j => j = b) w W3 := by
    rw [hW3]; exact (((Fr.refl _ (fun j => j = b) _).setIn (b := b) rfl _ _).setIn (b := b) rfl _ _).setIn (b := b) rfl _ _
  clear hW3 HQ c1 c2 c4 c5 c6 c7 c8 zf
  have c1 : W3.cell? ⟨b, 1, none⟩ = some (.int .i64 lim) := blk_cell hq3 1
  have c2 : W3.cell? ⟨b, 2, none⟩ = some (.int .i32 1) := blk_cell hq3 2
  have c4 : W3.cell? ⟨b, 4, none⟩ = some (.slice fa nf fc) := blk_cell hq3 4
  have c5 : W3.cell? ⟨b, 5, none⟩ = some (.int .i64 (wrap64 (held - n))) := blk_cell hq3 5
  have c6 : W3.cell? ⟨b, 6, none⟩ = some (.int .i64 (wrap64 (siz - sz))) := blk_cell hq3 6
  have c7 : W3.cell? ⟨b, 7, none⟩ = some room := blk_cell hq3 7
  have c8 : W3.cell? ⟨b, 8, none⟩ = some (.bool fin) := blk_cell hq3 8
  have zf : ∀ j, W3.frozen? ⟨b, j, none⟩ = false := blk_free hq3
  have HQ3 : Hid (W3.heap[b]? = some (.cells (qc lim 1 (.slice fa nf fc) (wrap64 (held - n)) (wrap64 (siz - sz)) room fin x y z) 140 (0, 0))) := hq3
  clear hq3
  refine (full_any b lim _ _ W3 c1 c5 c6).mono ?_
  rintro e w4 ⟨rfl, nq1, rfl⟩
  rw [hF]
  clear hF
  go_wp2_with fail
  go_quiet (fail)
  go_wp2_with (go_at_call 28; refine (unlock_held Locks.muLib ⟨b, 2, none⟩ _ ?_ ?_).mono ?_)
  · exact c2
  · exact zf 2
  rintro e w' ⟨rfl, rfl⟩
  go_wp2_with fail
  refine wp_loop_rounds 1 ?_
  rw [rounds_succ]
  go_wp2_with fail
  go_ret2
  refine ⟨rfl, (F3.drewN _).setIn (b := b) rfl _ _, ?_⟩
  exact blk_set_drewN HQ3.out _ 2 _

set_option maxHeartbeats 1600000 in
set_option maxRecDepth 100000 in
theorem written_room (b lb k rc : Nat) (ra : Option Addr) (lim held siz n sz : Int) (fa : Option Addr) (nf fc : Nat) (fin : Bool) (x y z : Value) (w : World)
    (hq : w.heap[b]? = some (.cells (qc lim 0 (.slice fa nf fc) held siz (.slice ra k rc) fin x y z) 140 (0, 0))) (hF : fullB lim (wrap64 (held - n)) (wrap64 (siz - sz)) = false)
    (hlb : lb ≠ b) (hlog : w.heap[lb]? = some (.cells #[.slice none 0 0] 111 (0, 0))) (hroom : IsRoom w b lb ra k) (hk : k ≤ 4) :
    Calls Yba.prog 17 #[.pointer (some ⟨b, 0, none⟩), .int .i64 n, .int .i64 sz] w fun e w' => e = .returned (.tuple #[.int .i64 nf, .bool fin]) ∧ Fr w.heap.size (fun j => j = b ∨ j = lb) w w' ∧ w'.heap[b]? = some (.cells (qc lim 0 (.slice fa nf fc) (wrap64 (held - n)) (wrap64 (siz - sz)) (.slice none 0 0) fin x y z) 140 (0, 0)) ∧
      ∃ lv, w'.heap[lb]? = some (.cells #[lv] 111 (0, 0)) ∧ w'.ownsRow w.heap.size 3 1 lv k (upto k) := by
  have c1 : w.cell? ⟨b, 1, none⟩ = some (.int .i64 lim) := blk_cell hq 1
  have c2 : w.cell? ⟨b, 2, none⟩ = some (.int .i32 0) := blk_cell hq 2
  have c4 : w.cell? ⟨b, 4, none⟩ = some (.slice fa nf fc) := blk_cell hq 4
  have c5 : w.cell? ⟨b, 5, none⟩ = some (.int .i64 held) := blk_cell hq 5
  have c6 : w.cell? ⟨b, 6, none⟩ = some (.int .i64 siz) := blk_cell hq 6
  have c7 : w.cell? ⟨b, 7, none⟩ = some (.slice ra k rc) := blk_cell hq 7
  have c8 : w.cell? ⟨b, 8, none⟩ = some (.bool fin) := blk_cell hq 8
  have zf : ∀ j, w.frozen? ⟨b, j, none⟩ = false := blk_free hq
  have HQ : Hid (w.heap[b]? = some (.cells (qc lim 0 (.slice fa nf fc) held siz (.slice ra k rc) fin x y z) 140 (0, 0))) := hq
  have HLOG : Hid (w.heap[lb]? = some (.cells #[.slice none 0 0] 111 (0, 0))) := hlog
  have HROOM : Hid (IsRoom w b lb ra k) := hroom
  have hbl : b < w.heap.size := blk_lt hq
  have hll : lb < w.heap.size := blk_lt hlog
  clear hq hlog hroom
  go_enter Yba.func17, Yba.ntmps17
  go_wp2_with (go_at_call 26; refine (lock_free Locks.muLib ⟨b, 2, none⟩ _ c2 (zf 2)).mono ?_; rintro e w' ⟨rfl, rfl⟩)
  obtain ⟨W3, hW3⟩ : ∃ W3, W3 = ((w.setCell ⟨b, 2, none⟩ (.int .i32 1)).setCell ⟨b, 5, none⟩ (.int .i64 (wrap64 (held - n)))).setCell ⟨b, 6, none⟩ (.int .i64 (wrap64 (siz - sz))) := ⟨_, rfl⟩
  rw [← hW3]
  have hq3 : W3.heap[b]? = some (.cells (qc lim 1 (.slice fa nf fc) (wrap64 (held - n)) (wrap64 (siz - sz)) (.slice ra k rc) fin x y z) 140 (0, 0)) := by
    rw [hW3]; exact blk_set (blk_set (blk_set HQ.out 2 _) 5 _) 6 _
  have F3 : Fr w.heap.size (fun j => j = b ∨ j = lb) w W3 := by
    rw [hW3]; exact (((Fr.refl _ (fun j => j = b ∨ j = lb) _).setIn (b := b) (.inl rfl) _ _).setIn (b := b) (.inl rfl) _ _).setIn (b := b) (.inl rfl) _ _
  have HLOG3 : Hid (W3.heap[lb]? = some (.cells #[.slice none 0 0] 111 (0, 0))) := by
    show W3.heap[lb]? = _
    rw [hW3, blk_set_other hlb, blk_set_other hlb, blk_set_other hlb]; exact HLOG.out
  clear hW3 HQ HLOG c1 c2 c4 c5 c6 c7 c8 zf
  have c1 : W3.cell? ⟨b, 1, none⟩ = some (.int .i64 lim) := blk_cell hq3 1
  have c2 : W3.cell? ⟨b, 2, none⟩ = some (.int .i32 1) := blk_cell hq3 2
  have c4 : W3.cell? ⟨b, 4, none⟩ = some (.slice fa nf fc) := blk_cell hq3 4
  have c5 : W3.cell? ⟨b, 5, none⟩ = some (.int .i64 (wrap64 (held - n))) := blk_cell hq3 5
  have c6 : W3.cell? ⟨b, 6, none⟩ = some (.int .i64 (wrap64 (siz - sz))) := blk_cell hq3 6
  have c7 : W3.cell? ⟨b, 7, none⟩ = some (.slice ra k rc) := blk_cell hq3 7
  have c8 : W3.cell? ⟨b, 8, none⟩ = some (.bool fin) := blk_cell hq3 8
  have zf : ∀ j, W3.frozen? ⟨b, j, none⟩ = false := blk_free hq3
  have HQ3 : Hid (W3.heap[b]? = some (.cells (qc lim 1 (.slice fa nf fc) (wrap64 (held - n)) (wrap64 (siz - sz)) (.slice ra k rc) fin x y z) 140 (0, 0))) := hq3
  clear hq3
  refine (full_any b lim _ _ W3 c1 c5 c6).mono ?_
  rintro e w4 ⟨rfl, nq1, rfl⟩
  rw [hF]
  clear hF
  go_wp2_with fail
  go_quiet (fail)
  go_wp2_with fail
  refine (unlock_held Locks.muLib ⟨b, 2, none⟩ (((W3.drewN nq1).setCell ⟨b, 7, none⟩ (.slice none 0 0)).drewN nq) ((World.cell?_setCell_other (W3.drewN nq1) ⟨b, 7, none⟩ ⟨b, 2, none⟩ _ (by simp)).trans c2) (by simp [zf])).mono ?_
  rintro e w' ⟨rfl, rfl⟩
  go_wp2_with fail
  obtain ⟨W5, hW5⟩ : ∃ W5, W5 = (((W3.drewN nq1).setCell ⟨b, 7, none⟩ (.slice none 0 0)).drewN nq).setCell ⟨b, 2, none⟩ (.int .i32 0) := ⟨_, rfl⟩
  rw [← hW5]
  have HQ5 : Hid (W5.heap[b]? = some (.cells (qc lim 0 (.slice fa nf fc) (wrap64 (held - n)) (wrap64 (siz - sz)) (.slice none 0 0) fin x y z) 140 (0, 0))) := by
    show W5.heap[b]? = _
    rw [hW5]; exact blk_set_drewN (blk_set_drewN HQ3.out _ 7 _) _ 2 _
  have F5 : Fr w.heap.size (fun j => j = b ∨ j = lb) w W5 := by
    rw [hW5]; exact (((F3.drewN _).setIn (b := b) (.inl rfl) _ _).drewN _).setIn (b := b) (.inl rfl) _ _
  have HLOG5 : Hid (W5.heap[lb]? = some (.cells #[.slice none 0 0] 111 (0, 0))) := by
    show W5.heap[lb]? = _
    rw [hW5, blk_set_other hlb]
    show ((W3.drewN nq1).setCell ⟨b, 7, none⟩ (.slice none 0 0)).heap[lb]? = _
    rw [blk_set_other hlb]; exact HLOG3.out
  clear hW5 HQ3 F3 HLOG3 c1 c2 c4 c5 c6 c7 c8 zf
  have hs5 := F5.size
  go_loopw [56] (fun i wr => ∃ (t : Nat) (lv : Value), t ≤ k ∧ i = .int .i64 t ∧ Hid (wr.heap[lb]? = some (.cells #[lv] 111 (0, 0))) ∧ wr.ownsRow w.heap.size 3 1 lv t (upto t) ∧ Fr w.heap.size (fun j => j = lb) W5 wr) (fun i _ => k - (intOf i).toNat)
  case atStart => exact ⟨0, .slice none 0 0, Nat.zero_le _, rfl, HLOG5, World.ownsRow_nil _ _ _ _, Fr.refl _ _ _⟩
  case round =>
    obtain ⟨t, lv, ht, rfl, HLr, hown, hfr⟩ := hrel
    have hsr := hfr.size
    by_cases hlt : t < k
    · obtain ⟨g, jb, hra, hg, hj, n1, n2, n3, n4⟩ := HROOM.out t hlt
      subst hra
      have lg : g < w.heap.size := World.block_lt_of_cell? w ⟨g, t, none⟩ hg
      have lj : jb < w.heap.size := World.block_lt_of_cell? w ⟨jb, 0, none⟩ hj
      have x1 : wr.cell? ⟨g, t, none⟩ = some (.func (.func 16) #[] #[.pointer (some ⟨lb, 0, none⟩), .pointer (some ⟨jb, 0, none⟩)]) := by
        rw [World.cell?_of_block (hfr.block g lg n3), World.cell?_of_block (F5.block g lg (fun e => by rcases e with e | e; exact n4 e; exact n3 e))]; exact hg
      have x2 : wr.cell? ⟨jb, 0, none⟩ = some (.int .i64 (t : Int)) := by
        rw [World.cell?_of_block (hfr.block jb lj n1), World.cell?_of_block (F5.block jb lj (fun e => by rcases e with e | e; exact n2 e; exact n1 e))]; exact hj
      have hlt' : (t : Int) < (k : Int) := by omega
      clear hg hj
      go_wp2_with (go_at_call 16; refine (clos_any w.heap.size lb jb t _ lv (t : Int) wr HLr.out x2 n1 hown hll (by omega) (by omega)).mono ?_; rintro e w6 ⟨rfl, lv', hl6, hown6, hfr6⟩)
      have HL6 : Hid (w6.heap[lb]? = some (.cells #[lv'] 111 (0, 0))) := hl6
      clear hl6
      exact ⟨⟨t + 1, lv', by omega, by go_num, HL6, by rw [upto_succ]; exact hown6, hfr.trans hfr6⟩, by simp [intOf]; omega⟩
    · have hk' : t = k := by omega
      subst hk'
      go_wp2_with fail
      go_ret2
      refine ⟨rfl, F5.trans (hfr.mono (Nat.le_refl _) (fun j _ h => .inr h)), ?_, lv, HLr.out, hown⟩
      rw [hfr.block b hbl (fun e => hlb e.symm)]; exact HQ5.out
end Go.Proofs.Ybulkakzq.Written
