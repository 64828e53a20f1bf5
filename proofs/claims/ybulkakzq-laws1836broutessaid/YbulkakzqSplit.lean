/-
  Group.split: the names go to the hops, to the parent, or away.
-/
import Derived.Test.YbulkakzqSorts
import Derived.Deep.LoopGhost
namespace Go.Proofs.Ybulkakzq.Split
open Go.RowKit Blocks Box Hops Fam Sp Sorts
set_option linter.unusedVariables false
set_option maxRecDepth 100000

theorem info9 : (Yba.prog.info? 9).map (fun i => (i.zero, i.size, i.bytes)) = some (some (.string ⟨#[]⟩), 1, 16) := by kernel_rfl
theorem info153 : (Yba.prog.info? 153).map (fun i => (i.zero, i.size, i.bytes)) = some (some (.agg #[.pointer none, .slice none 0 0]), 2, 32) := by kernel_rfl
theorem hid {p : Prop} (h : p) : Hid p := h
def preP (p : Nat) : List Value := [.pointer (some ⟨p, 0, none⟩)]

theorem one_new {w : World} {x : Value} {t N : Nat} (hN : N = w.heap.size) : ∀ j u, [x][j]? = some u → (w.alloc (.cells #[x] t)).cell? ((⟨N, 0, none⟩ : Addr).add j) = some u := by
  subst hN
  exact cell_one_new _ _ _
theorem two_new {w : World} {x y : Value} {t N : Nat} (hN : N = w.heap.size) : ∀ j u, [x, y][j]? = some u → (w.alloc (.cells #[x, y] t)).cell? ((⟨N, 0, none⟩ : Addr).add j) = some u := by
  subst hN
  intro j u hj
  match j, hj with
  | 0, hj => simp at hj; subst hj; simp [Addr.add]
  | 1, hj => simp at hj; subst hj; simp [Addr.add]
  | j + 2, hj => simp at hj

def hsT (T : List T3) : List (Nat × Value) := T.map fun t => (t.1, t.2.1)
theorem hops_cells {B : Nat} {w : World} {ao : Option Addr} {cap : Nat} {uv av : Value} {T : List T3} {U A : List ByteArray} (h : Sp 153 1 preP B w (.slice ao T.length cap) uv av T U A) (hb : ∀ t ∈ T, ∃ c Ty, w.heap[t.1]? = some (.cells c Ty (0, 0))) :
    ∀ (j : Nat) (h : Nat × Value), (hsT T)[j]? = some h → ∃ hb, ao = some ⟨hb, 0, none⟩ ∧ hb < w.heap.size ∧ w.cell? ⟨hb, j * 2, none⟩ = some (.pointer (some ⟨h.1, 0, none⟩)) ∧ w.cell? ⟨hb, j * 2 + 1, none⟩ = some h.2 ∧ ∃ c Ty, w.heap[h.1]? = some (.cells c Ty (0, 0)) := by
  intro j p hp
  rw [hsT, List.getElem?_map] at hp
  obtain ⟨t, ht, rfl⟩ := Option.map_eq_some_iff.1 hp
  obtain ⟨g, cap', e, _, hlt, _, h1, _, h2, _⟩ := h.valAt (fun _ => rfl) ht
  simp at e
  refine ⟨g, e.1, hlt, ?_, h1, hb t (List.mem_of_getElem? ht)⟩
  have := h2 0 (by omega)
  simpa [preP] using this

/-- What split leaves. -/
def SplitOut (w w' : World) (e : Ending) (H : List (Nat × List ByteArray)) (U : List ByteArray) : Prop :=
  ∃ hv uv av T A, e = .returned (.tuple #[hv, uv, av]) ∧ Sp 153 1 preP w.heap.size w' hv uv av T U A ∧ hopsT T = H ∧ Below w.heap.size w w'

set_option maxHeartbeats 8000000 in
theorem split_any (gv : Value) (ao : Option Addr) (cap : Nat) (l : List ByteArray) (fp ub : Bool) (r : ByteArray → Option Nat) (w : World) (hlen : l.length ≤ 1024)
    (hl : ∀ (j : Nat) (x : ByteArray), l[j]? = some x → ∃ g, ao = some ⟨g, 0, none⟩ ∧ g < w.heap.size ∧ w.cell? ⟨g, j, none⟩ = some (.string x))
    (hr0 : ∀ x ∈ l, r x = none → ∀ wx, Below w.heap.size w wx → Calls Yba.prog 30 #[gv, .string x, .bool fp] wx fun e w' => e = .returned (.tuple #[.pointer none, .bool ub]) ∧ w' = wx)
    (hr1 : ∀ x ∈ l, ∀ p, r x = some p → (∃ c T, w.heap[p]? = some (.cells c T (0, 0))) ∧ ∀ wx, Below w.heap.size w wx → Calls Yba.prog 30 #[gv, .string x, .bool fp] wx fun e w' => e = .returned (.tuple #[.pointer (some ⟨p, 0, none⟩), .bool false]) ∧ w' = wx) :
    Calls Yba.prog 21 #[gv, .slice ao l.length cap, .bool fp] w fun e w' => SplitOut w w' e (hopsL r l) (upsL r ub l) := by
  obtain ⟨i0, hi, hz0, hz1, hz2⟩ := info_parts info9
  obtain ⟨i1, hj, hy0, hy1, hy2⟩ := info_parts info153
  have HL : Hid (∀ (j : Nat) (x : ByteArray), l[j]? = some x → ∃ g, ao = some ⟨g, 0, none⟩ ∧ g < w.heap.size ∧ w.cell? ⟨g, j, none⟩ = some (.string x)) := hl
  have HR0 : Hid (∀ x ∈ l, r x = none → ∀ wx, Below w.heap.size w wx → Calls Yba.prog 30 #[gv, .string x, .bool fp] wx fun e w' => e = .returned (.tuple #[.pointer none, .bool ub]) ∧ w' = wx) := hr0
  have HR1 : Hid (∀ x ∈ l, ∀ p, r x = some p → (∃ c T, w.heap[p]? = some (.cells c T (0, 0))) ∧ ∀ wx, Below w.heap.size w wx → Calls Yba.prog 30 #[gv, .string x, .bool fp] wx fun e w' => e = .returned (.tuple #[.pointer (some ⟨p, 0, none⟩), .bool false]) ∧ w' = wx) := hr1
  clear hl hr0 hr1
  go_enter Yba.func21, Yba.ntmps21
  go_wp2
  go_loopg [6, 7, 8, 10, 11, 12, 13, 16] l.length (fun gg s6 s7 s8 _ _ _ _ s16 wr => ∃ (k : Nat) (T : List T3) (A : List ByteArray), k ≤ l.length ∧ l.length - k ≤ gg ∧ s16 = .int .i64 k ∧ Hid (Sp 153 1 preP w.heap.size wr s6 s7 s8 T (upsL r ub (l.take k)) A) ∧ Hid (Below w.heap.size w wr) ∧ Hid (hopsT T = hopsL r (l.take k)) ∧ A.length ≤ k)
  case atStart => exact ⟨0, [], [], Nat.zero_le _, by omega, rfl, Sp.start _ _ _ _ _, Below.refl _ _, hid (by simp [hopsT, hopsL]), by simp⟩
  case round =>
    obtain ⟨k, T, A, hk, hgg, rfl, hS, hB, hT, hA⟩ := hrel
    by_cases hlt : k < l.length
    · have hltz : (k : Int) < (l.length : Int) := by omega
      obtain ⟨x, hkx⟩ : ∃ x, l[k]? = some x := ⟨_, List.getElem?_eq_getElem hlt⟩
      have hxl : Hid (x ∈ l) := List.mem_of_getElem? hkx
      obtain ⟨g, rfl, hg, hc⟩ := HL.out k x hkx
      have HK : Hid (l[k]? = some x) := hkx
      have d0 : wr.cell? ⟨g, k, none⟩ = some (.string x) := (hB.out.cell (p := ⟨g, k, none⟩) hg).trans hc
      clear hkx hc
      have hsz := hB.out.size
      have hul : (upsL r ub (l.take k)).length ≤ k := by
        have := ups_len (r := r) ub (l.take k)
        simp at this
        omega
      have hTl : T.length ≤ k := by
        have h1 : (hopsT T).length ≤ (l.take k).length := by rw [hT.out]; exact hopsL_len _
        simp [hopsT] at h1
        omega
      cases hrx : r x with
      | none =>
        have hC := HR0.out x hxl.out hrx wr hB.out
        have HX : Hid (r x = none) := hrx
        clear hrx
        go_wp2_with fail
        refine hC.mono ?_
        rintro e w2 ⟨rfl, rfl⟩
        clear hC d0
        cases ub with
        | true =>
          go_wp2_with (at_builtin; refine wpList_append_own_at _ rfl (.tmp 30) (.tmp 32) 110 rfl w.heap.size 9 i0 (.string ⟨#[]⟩) 1 16 Yba.underlying110 hi hz0 hz1 hz2 rfl (by decide) _ _ _ rfl ((hS.out.alloc _).alloc _).ownU _ 1 1 [.string x] rfl rfl ?c1 ?c2 ?c3 ?c4 ?c5 ?_)
          case c1 => exact one_new (by simp)
          case c2 => intro u hu; simp at hu; subst hu; rfl
          case c3 => unfold maxLen; omega
          case c4 => omega
          case c5 => simp; omega
          intro v1 w1 hown1 hgrow1 _ hat1
          have hlU := hS.out.ownU.lt
          have hS4 : Hid (Sp 153 1 preP w.heap.size w1 u6 v1 u8 T (upsL r true (l.take k) ++ [x]) A) := ((hS.out.alloc _).alloc _).up (by decide) hown1 hgrow1 (by simpa using hat1)
          have hB4 : Hid (Below w.heap.size w w1) := (((hB.out.alloc hsz _).alloc (by simp; omega) _).grown hgrow1 (by simp; omega) (fun b hb => (hlU b hb).1))
          clear hown1 hgrow1 hat1
          go_wp2
          go_roundg (l.length - (k + 1))
          case measure => omega
          case rel => exact ⟨k + 1, T, A, by omega, Nat.le_refl _, rfl, by rw [ups_none HK.out HX.out]; exact hS4, hB4, hid (by rw [hops_none HK.out HX.out]; exact hT.out), by omega⟩
        | false =>
          go_wp2_with (at_builtin; refine wpList_append_own_at _ rfl (.tmp 34) (.tmp 36) 110 rfl w.heap.size 9 i0 (.string ⟨#[]⟩) 1 16 Yba.underlying110 hi hz0 hz1 hz2 rfl (by decide) _ _ _ rfl ((hS.out.alloc _).alloc _).ownA _ 1 1 [.string x] rfl rfl ?c1 ?c2 ?c3 ?c4 ?c5 ?_)
          case c1 => exact one_new (by simp)
          case c2 => intro u hu; simp at hu; subst hu; rfl
          case c3 => unfold maxLen; omega
          case c4 => omega
          case c5 => simp; omega
          intro v1 w1 hown1 hgrow1 _ hat1
          have hlU := hS.out.ownA.lt
          have hS4 : Hid (Sp 153 1 preP w.heap.size w1 u6 u7 v1 T (upsL r false (l.take k)) (A ++ [x])) := ((hS.out.alloc _).alloc _).away (by decide) hown1 hgrow1 (by simpa using hat1)
          have hB4 : Hid (Below w.heap.size w w1) := (((hB.out.alloc hsz _).alloc (by simp; omega) _).grown hgrow1 (by simp; omega) (fun b hb => (hlU b hb).1))
          clear hown1 hgrow1 hat1
          go_wp2
          go_roundg (l.length - (k + 1))
          case measure => omega
          case rel => exact ⟨k + 1, T, A ++ [x], by omega, Nat.le_refl _, rfl, by rw [ups_false] at hS4 ⊢; exact hS4, hB4, hid (by rw [hops_none HK.out HX.out]; exact hT.out), by simp; omega⟩
      | some p =>
        obtain ⟨hpb, hC⟩ := HR1.out x hxl.out p hrx
        have hC := hC wr hB.out
        have HX : Hid (r x = some p) := hrx
        clear hrx
        go_wp2_with fail
        refine hC.mono ?_
        rintro e w2 ⟨rfl, rfl⟩
        clear hC d0
        go_wp2_with fail
        obtain ⟨ao6, cap6, hu6⟩ := owns_shape hS.out.own
        subst hu6
        have hblk : ∀ q, (∃ c T, w.heap[q]? = some (Obj.cells c T (0, 0))) → ∃ c T, (w2.alloc (Obj.cells #[.pointer (some ⟨p, 0, none⟩)] 42)).heap[q]? = some (Obj.cells c T (0, 0)) := fun q ⟨c, Ty, h⟩ => ⟨c, Ty, blk_alloc (by rw [hB.out.block _ (blk_lt h)]; exact h)⟩
        have hTb : ∀ t ∈ T, ∃ c Ty, w.heap[t.1]? = some (.cells c Ty (0, 0)) := fun t ht => by
          have h1 : (t.1, t.2.2) ∈ hopsL r (l.take k) := by rw [← hT.out]; exact List.mem_map.2 ⟨t, ht, rfl⟩
          obtain ⟨h2, _, h3⟩ := (hopsL_in (r := r) (l.take k)).1 _ h1
          obtain ⟨y, hy⟩ := List.exists_mem_of_ne_nil _ h2
          exact (HR1.out y (List.mem_of_mem_take (h3 y hy).1) t.1 (h3 y hy).2).1
        have hlen2 : (hsT T).length = T.length := by simp [hsT]
        have hI := idx_any ao6 w2.heap.size p cap6 (hsT T) (w2.alloc (.cells #[.pointer (some ⟨p, 0, none⟩)] 42)) (by omega) (hblk p hpb) (by simp) (hops_cells (hS.out.alloc _) (fun t ht => hblk _ (hTb t ht)))
        rw [hlen2] at hI
        refine hI.mono ?_
        rintro e w3 ⟨i, rfl, hF, hb3⟩
        have hF : Hid (FoundP (hsT T) p i) := hF
        have hS3 : Hid (Sp 153 1 preP w.heap.size w3 (.slice ao6 T.length cap6) u7 u8 T (upsL r ub (l.take k)) A) := (hS.out.alloc _).below hb3
        have hB3 : Hid (Below w.heap.size w w3) := (hB.out.alloc hsz _).trans (hb3.mono (by simp; omega))
        have ht3 : w3.cell? ⟨w2.heap.size, 0, none⟩ = some (.pointer (some ⟨p, 0, none⟩)) := (hb3.cell (p := ⟨w2.heap.size, 0, none⟩) (by simp)).trans (by simp)
        have hsz3 := hB3.out.size
        clear hI hb3
        go_upto_if 42 with fail
        go_cut [6, 13] (fun s6 s13 wx => ∃ (T' : List T3) (i : Nat) (t : T3), s13 = .int .i64 i ∧ Hid (Sp 153 1 preP w.heap.size wx s6 u7 u8 T' (upsL r ub (l.take k)) A) ∧ Hid (Below w.heap.size w wx) ∧ Hid (T'[i]? = some t) ∧ t.2.2.length ≤ k ∧ Hid (∀ v, hopsT (T'.set i (t.1, v, t.2.2 ++ [x])) = addH (hopsT T) p x))
        case first =>
          rcases hF.out with ⟨hno, rfl⟩ | ⟨m, h, hm, hmq, rfl⟩
          · have HN : Hid (∀ t ∈ T, t.1 ≠ p) := fun t ht => by
              obtain ⟨j, hj⟩ := List.getElem?_of_mem ht
              exact hno j (t.1, t.2.1) (by simp [hsT, hj])
            clear hno
            go_wp2_with (at_builtin; refine wpList_append_own_at _ rfl (.tmp 45) (.tmp 48) 149 rfl w.heap.size 153 i1 (.agg #[.pointer none, .slice none 0 0]) 2 32 Yba.underlying149 hj hy0 hy1 hy2 rfl (by decide) _ _ _ rfl (hS3.out.alloc _).own _ 1 1 [.pointer (some ⟨p, 0, none⟩), .slice none 0 0] rfl rfl ?c1 ?c2 ?c3 ?c4 ?c5 ?_)
            case c1 => exact two_new (by simp)
            case c2 => intro u hu; simp at hu; rcases hu with rfl | rfl <;> rfl
            case c3 => unfold maxLen; omega
            case c4 => omega
            case c5 => simp; omega
            intro v1 w1 hown1 hgrow1 _ hat1
            have hlH := hS3.out.own.lt
            have hS4 : Hid (Sp 153 1 preP w.heap.size w1 v1 u7 u8 (T ++ [(p, .slice none 0 0, [])]) (upsL r ub (l.take k)) A) := (hS3.out.alloc _).hop (by decide) (p := p) hown1 hgrow1
            have hB4 : Hid (Below w.heap.size w w1) := (hB3.out.alloc hsz3 _).grown hgrow1 (by simp; omega) (fun b hb => (hlH b hb).1)
            clear hown1 hgrow1 hat1
            go_wp2
            go_meet
            exact ⟨T ++ [(p, .slice none 0 0, [])], T.length, (p, .slice none 0 0, []), rfl, hS4, hB4, hid (by simp), by simp, hid (fun v => hopsT_new HN.out)⟩
          · rw [hsT, List.getElem?_map] at hm
            obtain ⟨t, ht, rfl⟩ := Option.map_eq_some_iff.1 hm
            have HT : Hid (T[m]? = some t) := ht
            have HP : Hid (t.1 = p) := hmq
            have hmz : ¬ ((m : Int) < 0) := by omega
            clear hm hmq ht
            go_wp2
            go_meet
            refine ⟨T, m, t, rfl, hS3, hB3, HT, ?_, hid (fun v => ?_)⟩
            · have h1 : (t.1, t.2.2) ∈ hopsL r (l.take k) := by rw [← hT.out]; exact List.mem_map.2 ⟨t, List.mem_of_getElem? HT.out, rfl⟩
              have := ((hopsL_in (r := r) (l.take k)).1 _ h1).2.1
              simp at this
              omega
            · rw [← HP.out]
              exact hopsT_old (by rw [hT.out]; exact (hopsL_in (r := r) (l.take k)).2) HT.out
        case rest =>
          obtain ⟨T', i', t, rfl, hS5, hB5, hTi, htl, hH⟩ := hcut
          obtain ⟨wp, hwp⟩ : ∃ wp, wp = wc := ⟨_, rfl⟩
          subst hwp
          clear hS3 hB3 ht3 hF hS hB hblk hTb
          obtain ⟨g6, cap7, rfl, hg6, hgl6, hcap6, e1, e2, _, _⟩ := hS5.out.valAt (fun _ => rfl) hTi.out
          have hil : (i' : Int) < T'.length := by have := (List.getElem?_eq_some_iff.1 hTi.out).1; omega
          have hsz5 := hB5.out.size
          have e1 : wp.cell? ⟨g6, i' * 2 + 1, none⟩ = some t.2.1 := e1
          go_wp2_with (at_builtin; refine wpList_append_own_at _ rfl (.tmp 56) (.tmp 58) 110 rfl w.heap.size 9 i0 (.string ⟨#[]⟩) 1 16 Yba.underlying110 hi hz0 hz1 hz2 rfl (by decide) _ _ _ rfl ((hS5.out.alloc _).ownN hTi.out) _ 1 1 [.string x] rfl rfl ?c1 ?c2 ?c3 ?c4 ?c5 ?_)
          case c1 => exact one_new (by simp)
          case c2 => intro u hu; simp at hu; subst hu; rfl
          case c3 => unfold maxLen; omega
          case c4 => omega
          case c5 => simp; omega
          intro v1 w1 hown1 hgrow1 _ hat1
          obtain ⟨av1, cv1, hv1⟩ := owns_shape hown1
          subst hv1
          have hlN := hS5.out.ltN hTi.out
          have hrow := (hS5.out.alloc (.cells #[.string x] 9)).keepsRow (w' := w1) (by decide) (k := i' + 2) (f := (t.2.1, t.2.2)) (by simp [famT, hTi.out]) hgrow1
          have f1 : w1.cell? ⟨g6, i' * 2 + 1, none⟩ = some t.2.1 := by
            rw [hrow.cellAt _ (by omega)]; exact flat_val (q := 1) (fun _ => rfl) hTi.out
          have f2 : w1.frozen? ⟨g6, i' * 2 + 1, none⟩ = false := hrow.frozenAt _
          have hS6 : Hid (Sp 153 1 preP w.heap.size (w1.setCell ⟨g6, i' * 2 + 1, none⟩ (.slice av1 (t.2.2.length + 1) cv1)) (.slice (some ⟨g6, 0, none⟩) T'.length cap7) u7 u8 (T'.set i' (t.1, .slice av1 (t.2.2.length + 1) cv1, t.2.2 ++ [x])) (upsL r ub (l.take k)) A) := (hS5.out.alloc _).name (by decide) (fun _ => rfl) hTi.out hown1 hgrow1 (by simpa using hat1) rfl
          have hB6 : Hid (Below w.heap.size w (w1.setCell ⟨g6, i' * 2 + 1, none⟩ (.slice av1 (t.2.2.length + 1) cv1))) := ((hB5.out.alloc hsz5 _).grown hgrow1 (by simp; omega) hlN).setCell (p := ⟨g6, i' * 2 + 1, none⟩) hg6 _
          clear hown1 hgrow1 hat1 hrow hlN hS5 hB5 e1 e2
          go_wp2
          go_roundg (l.length - (k + 1))
          case measure => omega
          case rel => exact ⟨k + 1, _, A, by omega, Nat.le_refl _, rfl, by rw [ups_some ub HK.out HX.out]; exact hS6, hB6, hid (by rw [hops_some HK.out HX.out, ← hT.out]; exact hH.out _), by omega⟩
    · have hge : ¬ ((k : Int) < (l.length : Int)) := by omega
      obtain rfl : k = l.length := by omega
      go_wp2
      go_ret3
      refine ⟨_, _, _, T, A, rfl, ?_, ?_, hB.out⟩
      · have := hS.out
        rw [List.take_length] at this
        exact this
      · have := hT.out
        rw [List.take_length] at this
        exact this
end Go.Proofs.Ybulkakzq.Split
