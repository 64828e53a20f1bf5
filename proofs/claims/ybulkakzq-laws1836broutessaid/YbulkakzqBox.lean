/-
  bytes.Clone, bytes.Equal, the law's outbox, Group.queue.
-/
import Derived.Test.YbulkakzqNames
import Derived.WalkSpells
import Derived.Laws.BytesArg
import Derived.Lib.BufferMore
namespace Go.Proofs.Ybulkakzq.Box
open Go.RowKit Wire Blocks RegSteps Still
open Go.Shelf
set_option linter.unusedVariables false
set_option maxRecDepth 100000

theorem owns_empty (W : World) (B N e : Nat) (hN : N = W.heap.size) (hB : B ≤ W.heap.size) : (W.alloc (.cells #[] e)).ownsRow B e 1 (.slice (some ⟨N, 0, none⟩) 0 0) 0 [] := by
  subst hN
  exact ⟨rfl, .inr ⟨W.heap.size, 0, #[], rfl, hB, heap_alloc_new W _, Nat.le_refl _, by simp [maxLen], rfl, rfl⟩⟩

set_option maxHeartbeats 1000000 in
theorem clone_any (g n cap : Nat) (ys : List Int) (w : World) (hn : ys.length = n) (hle : n ≤ 1000000) (hg : g < w.heap.size) (hc : ∀ j u, (bc ys)[j]? = some u → w.cell? ⟨g, j, none⟩ = some u) :
    Calls Yba.prog 118 #[.slice (some ⟨g, 0, none⟩) n cap] w fun e w' => ∃ v', e = .returned v' ∧ w'.ownsRow w.heap.size 5 1 v' n (bc ys) ∧ Below w.heap.size w w' := by
  obtain ⟨i0, hi, hz0, hz1, hz2⟩ := info_parts info5
  have HC : Hid (∀ j u, (bc ys)[j]? = some u → w.cell? ⟨g, j, none⟩ = some u) := hc
  clear hc
  have hnil := Lib.run_eql_slice_some_nil w (t := 23) (⟨g, 0, none⟩ : Addr) n cap Yba.underlying23
  go_enter Yba.func118, Yba.ntmps118
  go_wp2_with (at_builtin; refine wpList_append_own _ rfl (.tmp 5) (.tmp 6) 23 rfl w.heap.size 5 i0 (.int .u8 0) 1 1 Yba.underlying23 hi hz0 hz1 hz2 rfl (by decide) _ 0 [] rfl (owns_empty w w.heap.size _ 5 (by simp) (Nat.le_refl _)) ⟨g, 0, none⟩ n cap (bc ys) rfl ?c0 ?c1 (bc_one _) ?c3 ?c4 ?c5 ?_)
  case c0 => rw [bc_length]; omega
  case c1 =>
    intro j u hj
    rw [Addr.add_lit]
    refine Lib.cell?_alloc_some _ ?_
    rw [show 0 + j = j by omega]
    exact HC.out j u hj
  case c3 => unfold maxLen; omega
  case c4 => omega
  case c5 => simp
  intro v1 w1 hown1 hgr1 _
  have hb1 : Below w.heap.size w w1 := ((Below.refl _ w).alloc (Nat.le_refl _) _).grown hgr1 (by simp) (fun k hk => by simp [Value.ownBlock] at hk; omega)
  clear hgr1
  go_wp2
  go_ret
  exact ⟨v1, rfl, hown1, hb1⟩

set_option maxHeartbeats 1000000 in
theorem equal_any (u v : Value) (B B' n : Nat) (ys : List Int) (w : World) (hu : w.ownsRow B 5 1 u n (bc ys)) (hv : w.ownsRow B' 5 1 v n (bc ys)) (hn : 0 < n) :
    Calls Yba.prog 12 #[u, v] w fun e w' => e = .returned (.bool true) ∧ w' = w := by
  obtain ⟨g, c, rfl, _, _, hl, _, hg⟩ := owns_form hu hn
  obtain ⟨g', c', rfl, _, _, _, _, hg'⟩ := owns_form hv hn
  have r1 := run_convert_bytes_arg w 23 5 Yba.underlying23 Yba.underlying5 g 0 n c ys hl (fun i hi => by rw [show 0 + i = i by omega]; exact hg i hi) 9 Yba.underlying9
  have r2 := run_convert_bytes_arg w 23 5 Yba.underlying23 Yba.underlying5 g' 0 n c' ys hl (fun i hi => by rw [show 0 + i = i by omega]; exact hg' i hi) 9 Yba.underlying9
  clear hg hg' hu hv
  go_enter Yba.func12, Yba.ntmps12
  go_wp2
  go_ret
  exact ⟨rfl, rfl⟩
theorem own_ne {w : World} {B B' e e' z z' n m : Nat} {v u : Value} {xs ys : List Value} (hv : w.ownsRow B e z v n xs) (hu : w.ownsRow B' e' z' u m ys) (h : e ≠ e') : v.ownBlock = none ∨ v.ownBlock ≠ u.ownBlock := by
  rcases hv.2 with ⟨rfl, _⟩ | ⟨g, cap, cur, rfl, _, hg, _⟩
  · left; rfl
  · right
    rcases hu.2 with ⟨rfl, _⟩ | ⟨g', cap', cur', rfl, _, hg', _⟩
    · simp [Value.ownBlock]
    · intro e1
      simp [Value.ownBlock] at e1
      subst e1
      rw [hg] at hg'
      simp at hg'
      exact h hg'.2

theorem owns_shape {w : World} {B e z n : Nat} {v : Value} {xs : List Value} (h : w.ownsRow B e z v n xs) : ∃ ao cap, v = .slice ao n cap := by
  rcases h.2 with ⟨rfl, rfl⟩ | ⟨g, cap, cur, rfl, _⟩
  · exact ⟨_, _, rfl⟩
  · exact ⟨_, _, rfl⟩

theorem info121 : (Yba.prog.info? 121).map (fun i => (i.zero, i.size, i.bytes)) = some (some (.agg #[.int .i64 0, .slice none 0 0]), 2, 32) := by kernel_rfl

/-- The box, and the log that it leads to. -/
def boxO (who : Int) (lb : Nat) : Obj := .cells #[.int .i64 who, .pointer (some ⟨lb, 0, none⟩)] 39 (0, 0)
def logO (lv : Value) : Obj := .cells #[lv] 33 (0, 0)

/-- What the outbox leaves: one entry more in the log, its frame a new row. -/
def BoxOut (w w' : World) (lb B n : Nat) (lv : Value) (xs : List Value) (who : Int) (m : Nat) (ys : List Int) : Prop :=
  ∃ lv' cv, w'.heap[lb]? = some (logO lv') ∧ w'.ownsRow B 121 2 lv' (n + 1) (xs ++ [.int .i64 who, cv]) ∧ w'.ownsRow w.heap.size 5 1 cv m (bc ys) ∧ Fr w.heap.size (fun k => k = lb ∨ lv.ownBlock = some k) w w'

set_option maxHeartbeats 4000000 in
theorem boxq_any (xb lb B n g m cap : Nat) (who : Int) (lv : Value) (xs : List Value) (ys : List Int) (w : World) (hx : w.heap[xb]? = some (boxO who lb)) (hlg : w.heap[lb]? = some (logO lv)) (hown : w.ownsRow B 121 2 lv n xs) (hn : n ≤ 2000) (hB : B ≤ w.heap.size) (hlB : lb < B) (hxB : xb < B)
    (hm : ys.length = m) (hm0 : 0 < m) (hle : m ≤ 1000000) (hg : g < w.heap.size) (hc : ∀ j u, (bc ys)[j]? = some u → w.cell? ⟨g, j, none⟩ = some u) :
    Calls Yba.prog 117 #[.pointer (some ⟨xb, 0, none⟩), .slice (some ⟨g, 0, none⟩) m cap] w fun e w' => e = .returned (.bool false) ∧ BoxOut w w' lb B n lv xs who m ys := by
  obtain ⟨i0, hi, hz0, hz1, hz2⟩ := info_parts info121
  have en118 : ∀ args w, (callFunc 118 args).run Yba.prog w = .ok (.enter 118 args) w := enters_of Yba.func118 (by kernel_rfl) rfl
  have hI : Hid (w.heap[xb]? = some (boxO who lb) ∧ w.heap[lb]? = some (logO lv)) := ⟨hx, hlg⟩
  go_enter Yba.func117, Yba.ntmps117
  go_wp2_with fail
  refine wp_region_any (by kernel_rfl) (anyI.any (L := 20) (I := fun w' => w'.heap[xb]? = some (boxO who lb) ∧ w'.heap[lb]? = some (logO lv)) ?_)
  refine takeI (i := 0) (v := .pointer (some ⟨xb, 0, none⟩)) rfl (by kernel_rfl) (by kernel_rfl) (by kernel_rfl) (by kernel_rfl) (fun _ _ _ h => h) hI.out ⟨by rfl, fun w' h => by go_simp⟩ ?_
  refine takeI (i := 1) (v := .pointer (some ⟨xb, 0, none⟩)) rfl (by kernel_rfl) (by kernel_rfl) (by kernel_rfl) (by kernel_rfl) (fun _ _ _ h => h) hI.out ⟨by rfl, fun w' h => by go_simp⟩ ?_
  refine takeI (i := 2) (v := .pointer (some ⟨xb, 1, none⟩)) rfl (by kernel_rfl) (by kernel_rfl) (by kernel_rfl) (by kernel_rfl) (fun _ _ _ h => h) hI.out ⟨by rfl, fun w' h => by go_simp⟩ ?_
  refine takeI (i := 3) (v := .pointer (some ⟨lb, 0, none⟩)) rfl (by kernel_rfl) (by kernel_rfl) (by kernel_rfl) (by kernel_rfl) (fun _ _ _ h => h) hI.out ⟨by rfl, fun w' h => by
    have c0 := cellLit h.1 0
    have c1 := cellLit h.1 1
    simp at c0 c1
    go_simp⟩ ?_
  refine takeI (i := 4) (v := .pointer (some ⟨xb, 0, none⟩)) rfl (by kernel_rfl) (by kernel_rfl) (by kernel_rfl) (by kernel_rfl) (fun _ _ _ h => h) hI.out ⟨by rfl, fun w' h => by go_simp⟩ ?_
  refine takeI (i := 5) (v := .pointer (some ⟨xb, 0, none⟩)) rfl (by kernel_rfl) (by kernel_rfl) (by kernel_rfl) (by kernel_rfl) (fun _ _ _ h => h) hI.out ⟨by rfl, fun w' h => by go_simp⟩ ?_
  refine takeI (i := 6) (v := .pointer (some ⟨xb, 1, none⟩)) rfl (by kernel_rfl) (by kernel_rfl) (by kernel_rfl) (by kernel_rfl) (fun _ _ _ h => h) hI.out ⟨by rfl, fun w' h => by go_simp⟩ ?_
  refine takeI (i := 7) (v := .pointer (some ⟨lb, 0, none⟩)) rfl (by kernel_rfl) (by kernel_rfl) (by kernel_rfl) (by kernel_rfl) (fun _ _ _ h => h) hI.out ⟨by rfl, fun w' h => by
    have c0 := cellLit h.1 0
    have c1 := cellLit h.1 1
    simp at c0 c1
    go_simp⟩ ?_
  refine takeI (i := 8) (v := .pointer (some ⟨lb, 0, none⟩)) rfl (by kernel_rfl) (by kernel_rfl) (by kernel_rfl) (by kernel_rfl) (fun _ _ _ h => h) hI.out ⟨by rfl, fun w' h => by go_simp⟩ ?_
  refine takeI (i := 9) (v := lv) rfl (by kernel_rfl) (by kernel_rfl) (by kernel_rfl) (by kernel_rfl) (fun _ _ _ h => h) hI.out ⟨by rfl, fun w' h => by
    have c0 := cellLit h.2 0
    simp at c0
    go_simp⟩ ?_
  refine takeI (i := 10) (v := .pointer (some ⟨xb, 0, none⟩)) rfl (by kernel_rfl) (by kernel_rfl) (by kernel_rfl) (by kernel_rfl) (fun _ _ _ h => h) hI.out ⟨by rfl, fun w' h => by go_simp⟩ ?_
  refine takeI (i := 11) (v := .pointer (some ⟨xb, 0, none⟩)) rfl (by kernel_rfl) (by kernel_rfl) (by kernel_rfl) (by kernel_rfl) (fun _ _ _ h => h) hI.out ⟨by rfl, fun w' h => by go_simp⟩ ?_
  refine takeI (i := 12) (v := .pointer (some ⟨xb, 0, none⟩)) rfl (by kernel_rfl) (by kernel_rfl) (by kernel_rfl) (by kernel_rfl) (fun _ _ _ h => h) hI.out ⟨by rfl, fun w' h => by go_simp⟩ ?_
  refine takeI (i := 13) (v := .int .i64 who) rfl (by kernel_rfl) (by kernel_rfl) (by kernel_rfl) (by kernel_rfl) (fun _ _ _ h => h) hI.out ⟨by rfl, fun w' h => by
    have c0 := cellLit h.1 0
    have c1 := cellLit h.1 1
    simp at c0 c1
    go_simp⟩ ?_
  refine takeI (i := 14) (v := .slice (some ⟨g, 0, none⟩) m cap) rfl (by kernel_rfl) (by kernel_rfl) (by kernel_rfl) (by kernel_rfl) (fun _ _ _ h => h) hI.out ⟨by rfl, fun w' h => by go_simp⟩ ?_
  refine oneI (i := 15) rfl (by kernel_rfl) (fun K hK => ?_)
  refine step_call rfl 118 _ _ rfl #[.slice (some ⟨g, 0, none⟩) m cap] (by go_simp) (en118 _ _) (clone_any g m cap ys _ hm hle hg (fun j u hj => hc j u hj)) ?_
  rintro e w1 ⟨cv, rfl, hcv, hb1⟩
  have hb1 : Below w.heap.size w w1 := ⟨hb1.os, hb1.tape, hb1.output, hb1.size, hb1.block⟩
  have hcv : w1.ownsRow w.heap.size 5 1 cv m (bc ys) := hcv
  have hI1 : w1.heap[xb]? = some (boxO who lb) ∧ w1.heap[lb]? = some (logO lv) := ⟨by rw [hb1.block _ (blk_lt hI.out.1)]; exact hI.out.1, by rw [hb1.block _ (blk_lt hI.out.2)]; exact hI.out.2⟩
  refine ⟨cv, rfl, hK _ _ (fun _ => hI1) ?_⟩
  clear hK K
  obtain ⟨cg, ccap, hcf, hcg, _⟩ := owns_form hcv hm0
  subst hcf
  refine oneI (i := 16) rfl (by kernel_rfl) (fun K hK => ?_)
  go_simp
  refine hK _ _ (fun _ => hI1) ?_
  clear hK K
  refine oneI (i := 17) rfl (by kernel_rfl) (fun K hK => ?_)
  go_simp
  refine hK _ _ (fun _ => ⟨blk_alloc hI1.1, blk_alloc hI1.2⟩) ?_
  clear hK K
  have hown1 : w1.ownsRow B 121 2 lv n xs := hown.kept (row := none) ⟨hb1.os, hb1.tape, hb1.output, hb1.size, fun k hk _ => hb1.block k hk⟩ (by cases lv.ownBlock <;> simp)
  refine oneI (i := 18) rfl (by kernel_rfl) (fun K hK => ?_)
  refine step_append_own rfl (.tmp 14) (.tmp 22) 33 rfl B 121 i0 (.agg #[.int .i64 0, .slice none 0 0]) 2 32 Yba.underlying33 hi hz0 hz1 hz2 rfl (by decide) lv n xs rfl (hown1.alloc _) ⟨w1.heap.size, 0, none⟩ 1 1 [.int .i64 who, .slice (some ⟨cg, 0, none⟩) m ccap] rfl rfl ?_ ?_ (by unfold maxLen; omega) (by omega) (by have := hb1.size; simp; omega) ?_
  · intro j u hj
    match j, hj with
    | 0, hj => simp at hj; subst hj; simp [Addr.add]
    | 1, hj => simp at hj; subst hj; simp [Addr.add]
    | j + 2, hj => simp at hj
  · intro u hu
    simp at hu
    rcases hu with rfl | rfl <;> rfl
  intro v2 w2 hown2 hgr2 hat2
  have hs1 := hb1.size
  have f1 : Fr w.heap.size (fun k => k = lb ∨ lv.ownBlock = some k) w w1 := Fr.of_below hb1
  have f2 : Fr w.heap.size (fun k => k = lb ∨ lv.ownBlock = some k) w w2 := (f1.alloc hs1 _).grown hgr2 (by simp; omega) (fun k hk => .inr (.inr hk))
  have ne1 : lv.ownBlock ≠ some xb := fun e => by have := (hown1.lt _ e).1; omega
  have ne2 : lv.ownBlock ≠ some lb := fun e => by have := (hown1.lt _ e).1; omega
  have hI2 : w2.heap[xb]? = some (boxO who lb) ∧ w2.heap[lb]? = some (logO lv) :=
    ⟨by rw [hgr2.block _ (by simp; have := blk_lt hI1.1; omega) (fun e => ne1 e.symm)]; exact blk_alloc hI1.1, by rw [hgr2.block _ (by simp; have := blk_lt hI1.2; omega) (fun e => ne2 e.symm)]; exact blk_alloc hI1.2⟩
  have hcv2 : w2.ownsRow w.heap.size 5 1 (.slice (some ⟨cg, 0, none⟩) m ccap) m (bc ys) := (hcv.alloc _).kept hgr2 (own_ne hcv hown1 (by decide))
  obtain ⟨ao2, cap2, hv2⟩ := owns_shape hown2
  subst hv2
  refine hK _ _ (fun _ => hI2) ?_
  clear hK K hgr2 hat2
  refine oneI (i := 19) rfl (by kernel_rfl) (fun K hK => ?_)
  go_simp
  refine hK _ _ (fun _ => hI2) ?_
  clear hK K
  have c0 := cellLit hI2.2 0
  have z0 : w2.frozen? ⟨lb, 0, none⟩ = false := blk_free hI2.2 0
  simp at c0
  refine oneI (i := 20) rfl (by kernel_rfl) (fun K hK => ?_)
  go_simp
  refine hK _ _ (fun h => absurd rfl h) ?_
  clear hK K
  refine doneI (by kernel_rfl) ?_ _
  go_wp2
  go_ret
  refine ⟨rfl, .slice ao2 (n + 1) cap2, .slice (some ⟨cg, 0, none⟩) m ccap, ?_, ownsRow_setCell_below (a := ⟨lb, 0, none⟩) hown2 hlB _, ?_, f2.setCell (p := ⟨lb, 0, none⟩) (.inr (.inl rfl)) _⟩
  · have := blk_set hI2.2 0 (.slice ao2 (n + 1) cap2)
    simpa [logO] using this
  · refine ownsRow_setCell_below hcv2 ?_ _
    show lb < w.heap.size
    omega
end Go.Proofs.Ybulkakzq.Box
