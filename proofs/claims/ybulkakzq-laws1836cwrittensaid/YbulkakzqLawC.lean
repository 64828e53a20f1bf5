/-
  LawS1836CWritten: the walk.
-/
import Derived.Test.YbulkakzqWritten
namespace Go.Proofs.Ybulkakzq.LawC
open Go.RowKit Blocks Queue Written
set_option linter.unusedVariables false

/-- The room's callbacks as cells: closures over the log and over the variables that lie in the blocks bs. -/
def fs (lb : Nat) (bs : List Nat) : List Value := bs.map fun jb => .func (.func 16) #[] #[.pointer (some ⟨lb, 0, none⟩), .pointer (some ⟨jb, 0, none⟩)]

theorem info23 : (Yba.prog.info? 23).map (fun i => (i.zero, i.size, i.bytes)) = some (some (.slice none 0 0), 1, 24) := by kernel_rfl

set_option maxHeartbeats 1600000 in
set_option maxRecDepth 100000 in
theorem walk (a0 held siz lim n sz a6 : Int) (fin : Bool) (h00 : 0 ≤ a0) (h01 : a0 ≤ 255) (h60 : 0 ≤ a6) (h61 : a6 ≤ 255) (w : World) :
    Calls Yba.prog 5 #[.int .u8 a0, .int .i64 held, .int .i64 siz, .int .i64 lim, .int .i64 n, .int .i64 sz, .int .u8 a6, .bool fin] w fun e w' => e = .returned (.bool true) ∧ Below w.heap.size w w' := by
  obtain ⟨i0, hi, hz0, hz1, hz2⟩ := info_parts info1
  obtain ⟨i1, hi1, hz01, hz11, hz21⟩ := info_parts info23
  obtain ⟨nf, hnf, hnf1, hnf2⟩ : ∃ nf : Nat, a0 % 20 ≤ (nf : Int) ∧ (nf : Int) ≤ a0 % 20 ∧ nf < 20 := ⟨(a0 % 20).toNat, by omega, by omega, by omega⟩
  obtain ⟨k, hk, hk1, hk2⟩ : ∃ k : Nat, a6 % 5 ≤ (k : Int) ∧ (k : Int) ≤ a6 % 5 ∧ k < 5 := ⟨(a6 % 5).toNat, by omega, by omega, by omega⟩
  go_enter Yba.func5, Yba.ntmps5
  go_wp2_with fail
  refine (new_any w).mono ?_
  rintro e w1 ⟨b, x, y, z, rfl, hbw, hq, hb1⟩
  have c1 : w1.cell? ⟨b, 1, none⟩ = some (.int .i64 0) := blk_cell hq 1
  have c4 : w1.cell? ⟨b, 4, none⟩ = some (.slice none 0 0) := blk_cell hq 4
  have c5 : w1.cell? ⟨b, 5, none⟩ = some (.int .i64 0) := blk_cell hq 5
  have c6 : w1.cell? ⟨b, 6, none⟩ = some (.int .i64 0) := blk_cell hq 6
  have c8 : w1.cell? ⟨b, 8, none⟩ = some (.bool false) := blk_cell hq 8
  have zf : ∀ j, w1.frozen? ⟨b, j, none⟩ = false := blk_free hq
  have HQ : Hid (w1.heap[b]? = some (.cells (qc 0 0 (.slice none 0 0) 0 0 (.slice none 0 0) false x y z) 140 (0, 0))) := hq
  clear hq
  go_wp2_with (at_make; refine wpList_make_full _ rfl (.tmp 52) (.tmp 52) 114 rfl w.heap.size 23 i1 (.slice none 0 0) 1 Yba.underlying114 hi1 hz01 hz11 _ _ _ _ nf rfl rfl ?m0 ?m1 ?m2 ?m3 ?m4 ?_)
  case m0 => omega
  case m1 => omega
  case m2 => rw [hz21]; omega
  case m3 => unfold maxLen; omega
  case m4 => have := hb1.size; simp; omega
  intro w2 hown2 hgr2
  have hs1 := hb1.size
  have hbl1 : b < w1.heap.size := blk_lt HQ.out
  have hq2 : w2.heap[b]? = some (.cells (qc lim 0 (.slice none 0 0) (wrap64 (held + 256)) siz (.slice none 0 0) fin x y z) 140 (0, 0)) := by
    rw [hgr2.block b (by simp; exact hbl1) (by simp)]; exact blk_set (blk_set (blk_set (blk_set HQ.out 1 _) 5 _) 6 _) 8 _
  have hb2 : Below w.heap.size w w2 := ((((hb1.setCell (p := ⟨b, 1, none⟩) hbw _).setCell (p := ⟨b, 5, none⟩) hbw _).setCell (p := ⟨b, 6, none⟩) hbw _).setCell (p := ⟨b, 8, none⟩) hbw _).grown hgr2 (by simp; omega) (fun k hk => by simp at hk)
  have hs2 : w1.heap.size ≤ w2.heap.size := by have := hgr2.size; simpa using this
  clear hown2 hgr2 hb1 HQ c1 c4 c5 c6 c8 zf
  have c4 : w2.cell? ⟨b, 4, none⟩ = some (.slice none 0 0) := blk_cell hq2 4
  have z4 : w2.frozen? ⟨b, 4, none⟩ = false := blk_free hq2 4
  have HQ2 : Hid (w2.heap[b]? = some (.cells (qc lim 0 (.slice none 0 0) (wrap64 (held + 256)) siz (.slice none 0 0) fin x y z) 140 (0, 0))) := hq2
  clear hq2
  go_wp2_with fail
  go_loopw [21] (fun i wr => ∃ (t : Nat) (room : Value) (bs : List Nat), t ≤ k ∧ i = .int .i64 t ∧ bs.length = t ∧ Hid (wr.heap[b]? = some (.cells (qc lim 0 (.slice (some ⟨w1.heap.size, 0, none⟩) nf nf) (wrap64 (held + 256)) siz room fin x y z) 140 (0, 0))) ∧
      Hid (wr.heap[w2.heap.size]? = some (.cells #[.slice none 0 0] 111 (0, 0))) ∧ wr.ownsRow (w2.heap.size + 1) 1 1 room t (fs w2.heap.size bs) ∧ Hid (∀ (s jb : Nat), bs[s]? = some jb → w2.heap.size < jb ∧ wr.heap[jb]? = some (.cells #[.int .i64 (s : Int)] 3 (0, 0))) ∧ Below w.heap.size w wr) (fun i _ => k - (intOf i).toNat)
  case atStart =>
    refine ⟨0, .slice none 0 0, [], Nat.zero_le _, rfl, rfl, ?_, ?_, World.ownsRow_nil _ _ _ _, ?_, ?_⟩
    · exact blk_alloc (blk_set HQ2.out 4 _)
    · have := heap_alloc_new (w2.setCell ⟨b, 4, none⟩ (.slice (some ⟨w1.heap.size, 0, none⟩) nf nf)) (.cells #[.slice none 0 0] 111)
      simp only [World.size_setCell] at this
      exact this
    · intro s jb h; simp at h
    · exact (hb2.setCell (p := ⟨b, 4, none⟩) hbw _).alloc (by simp; omega) _
  case round =>
    obtain ⟨t, room, bs, ht, rfl, hbs, HQr, HLr, hown, HJ, hbr⟩ := hrel
    have hbl : b < wr.heap.size := blk_lt HQr.out
    have hll : w2.heap.size < wr.heap.size := blk_lt HLr.out
    have hsr := hbr.size
    by_cases hlt : t < k
    · have c7 : wr.cell? ⟨b, 7, none⟩ = some room := blk_cell HQr.out 7
      go_wp2_with (at_builtin; refine wpList_append_own _ rfl (.tmp 69) (.tmp 71) 129 rfl (w2.heap.size + 1) 1 i0 .nilFunc 1 8 Yba.underlying129 hi hz0 hz1 hz2 rfl (by decide) _ _ _ rfl ((hown.alloc _).alloc _) _ 1 1 [.func (.func 16) #[] #[.pointer (some ⟨w2.heap.size, 0, none⟩), .pointer (some ⟨wr.heap.size, 0, none⟩)]] rfl rfl ?c1 ?c2 ?c3 ?c4 ?c5 ?_)
      case c1 =>
        intro j u hj
        match j, hj with
        | 0, hj => simp at hj; subst hj; simp [Addr.add]
      case c2 => intro u hu; simp at hu; subst hu; rfl
      case c3 => unfold maxLen; omega
      case c4 => omega
      case c5 => simp; omega
      intro v3 w3 hown3 hgr3 _
      have hown' := (hown.alloc (Obj.cells #[.int .i64 (t : Int)] 3)).alloc (.cells #[.func (.func 16) #[] #[.pointer (some ⟨w2.heap.size, 0, none⟩), .pointer (some ⟨wr.heap.size, 0, none⟩)]] 1)
      have hq3 := keepBlk (by decide) (blk_alloc (blk_alloc HQr.out)) hown' hgr3
      have HL3 : Hid (w3.heap[w2.heap.size]? = some (.cells #[.slice none 0 0] 111 (0, 0))) := keepBlk (by decide) (blk_alloc (blk_alloc HLr.out)) hown' hgr3
      have HJ3 : Hid (∀ (s jb : Nat), (bs ++ [wr.heap.size])[s]? = some jb → w2.heap.size < jb ∧ w3.heap[jb]? = some (.cells #[.int .i64 (s : Int)] 3 (0, 0))) := by
        intro s jb h
        by_cases hs : s < bs.length
        · rw [List.getElem?_append_left hs] at h
          obtain ⟨h1, h2⟩ := HJ.out s jb h
          exact ⟨h1, keepBlk (by decide) (blk_alloc (blk_alloc h2)) hown' hgr3⟩
        · rw [List.getElem?_append_right (by omega)] at h
          obtain ⟨e1, e2⟩ : s - bs.length = 0 ∧ wr.heap.size = jb := by
            have h' := List.getElem?_eq_some_iff.1 h
            obtain ⟨h1, h2⟩ := h'
            simp at h1
            refine ⟨by omega, ?_⟩
            have e : s - bs.length = 0 := by omega
            simpa [e] using h2
          have es : s = t := by omega
          subst e2
          subst es
          exact ⟨hll, keepBlk (by decide) (blk_alloc (heap_alloc_new wr _)) hown' hgr3⟩
      have hb3 : Below w.heap.size w w3 := ((hbr.alloc hsr _).alloc (by simp; omega) _).grown hgr3 (by simp; omega) (fun k hk => by have := (hown'.lt k hk).1; omega)
      have c73 : w3.cell? ⟨b, 7, none⟩ = some room := blk_cell hq3 7
      have z73 : w3.frozen? ⟨b, 7, none⟩ = false := blk_free hq3 7
      have HQ3 : Hid (w3.heap[b]? = some (.cells (qc lim 0 (.slice (some ⟨w1.heap.size, 0, none⟩) nf nf) (wrap64 (held + 256)) siz room fin x y z) 140 (0, 0))) := hq3
      obtain ⟨g, cap, hv3, hBg, _⟩ := owns_row hown3 (by omega)
      subst hv3
      clear hq3 hgr3 hown' hown HJ HLr HQr c7
      go_wp2_with fail
      go_roundw
      case rel =>
        refine ⟨t + 1, .slice (some ⟨g, 0, none⟩) (t + 1) cap, bs ++ [wr.heap.size], by omega, by go_num, by simp [hbs], ?_, ?_, ?_, ?_, ?_⟩
        · exact blk_set HQ3.out 7 _
        · show (w3.setCell _ _).heap[_]? = _
          rw [blk_set_other (by simp; omega)]; exact HL3.out
        · refine ownsRow_setCell_below ?_ (by simp; omega) _
          simpa [fs] using hown3
        · intro s jb h
          obtain ⟨h1, h2⟩ := HJ3.out s jb h
          exact ⟨h1, by rw [blk_set_other (by simp; omega)]; exact h2⟩
        · exact hb3.setCell (p := ⟨b, 7, none⟩) hbw _
      case measure => simp [intOf]; omega
    · have hk' : t = k := by omega
      subst hk'
      obtain ⟨ra, rc, hroom, hfl, hrc⟩ := owns_any hown
      subst hroom
      have hR : IsRoom wr b w2.heap.size ra t := by
        intro s hs
        obtain ⟨jb, hjb⟩ : ∃ jb, bs[s]? = some jb := ⟨bs[s]'(by omega), List.getElem?_eq_getElem (by omega)⟩
        obtain ⟨g, hg, hBg, hc⟩ := hrc s (.func (.func 16) #[] #[.pointer (some ⟨w2.heap.size, 0, none⟩), .pointer (some ⟨jb, 0, none⟩)]) (by simp [fs, hjb])
        obtain ⟨h1, h2⟩ := HJ.out s jb hjb
        exact ⟨g, jb, hg, hc, blk_cell h2 0, by omega, by omega, by omega, by omega⟩
      have HR : Hid (IsRoom wr b w2.heap.size ra t) := hR
      have c5 : wr.cell? ⟨b, 5, none⟩ = some (.int .i64 (wrap64 (held + 256))) := blk_cell HQr.out 5
      clear hown hrc hR HJ
      by_cases hF : fullB lim (wrap64 (wrap64 (held + 256) - n)) (wrap64 (siz - sz)) = true
      · go_wp2_with fail
        refine (written_full b w2.heap.size lim (wrap64 (held + 256)) siz n sz _ nf nf (.slice ra t rc) fin x y z wr HQr.out hF).mono ?_
        rintro e w3 ⟨rfl, hfr, hq3⟩
        have hl3 : w3.heap[w2.heap.size]? = some (.cells #[.slice none 0 0] 111 (0, 0)) := by rw [hfr.block _ hll (by omega)]; exact HLr.out
        have hb3 : Below w.heap.size w w3 := hbr.trans (hfr.below hsr (fun k hk => by omega))
        clear hfr hbr HQr HLr HR c5
        have d4 : w3.cell? ⟨b, 4, none⟩ = some (.slice (some ⟨w1.heap.size, 0, none⟩) nf nf) := blk_cell hq3 4
        have d5 : w3.cell? ⟨b, 5, none⟩ = some (.int .i64 (wrap64 (wrap64 (held + 256) - n))) := blk_cell hq3 5
        have d6 : w3.cell? ⟨b, 6, none⟩ = some (.int .i64 (wrap64 (siz - sz))) := blk_cell hq3 6
        have d7 : w3.cell? ⟨b, 7, none⟩ = some (.slice ra t rc) := blk_cell hq3 7
        have d8 : w3.cell? ⟨b, 8, none⟩ = some (.bool fin) := blk_cell hq3 8
        have dl : w3.cell? ⟨w2.heap.size, 0, none⟩ = some (.slice none 0 0) := blk_cell hl3 0
        have e1 : ((nf : Int) != a0 % 20) = false := by simp; omega
        have e2 : ((t : Int) == a6 % 5) = true := by simp; omega
        clear hq3 hl3
        unfold fullB at hF
        by_cases hlp : 0 < lim
        · rw [if_pos hlp] at hF
          have hF := of_decide_eq_true hF
          go_wp2_with fail
          go_ret
          exact ⟨rfl, hb3⟩
        · rw [if_neg hlp] at hF
          have hF := of_decide_eq_true hF
          go_wp2_with fail
          go_ret
          exact ⟨rfl, hb3⟩
      · have hF' : fullB lim (wrap64 (wrap64 (held + 256) - n)) (wrap64 (siz - sz)) = false := by simpa using hF
        go_wp2_with fail
        refine (written_room b w2.heap.size t rc ra lim (wrap64 (held + 256)) siz n sz _ nf nf fin x y z wr HQr.out hF' (by omega) HLr.out HR.out (by omega)).mono ?_
        rintro e w3 ⟨rfl, hfr, hq3, lv, hl3, hown3⟩
        have hb3 : Below w.heap.size w w3 := hbr.trans (hfr.below hsr (fun k hk => by omega))
        clear hfr hbr HQr HLr HR c5 hF
        obtain ⟨la, lc, hlv, _, hlc⟩ := owns_any hown3
        subst hlv
        have HC : Hid (∀ s : Nat, s < t → ∃ g, la = some ⟨g, 0, none⟩ ∧ w3.cell? ⟨g, s, none⟩ = some (.int .i64 (s : Int))) := fun s hs => by
          obtain ⟨g, h1, _, h2⟩ := hlc s (.int .i64 (s : Int)) (by simp [upto, hs])
          exact ⟨g, h1, h2⟩
        clear hlc hown3
        have d4 : w3.cell? ⟨b, 4, none⟩ = some (.slice (some ⟨w1.heap.size, 0, none⟩) nf nf) := blk_cell hq3 4
        have d5 : w3.cell? ⟨b, 5, none⟩ = some (.int .i64 (wrap64 (wrap64 (held + 256) - n))) := blk_cell hq3 5
        have d6 : w3.cell? ⟨b, 6, none⟩ = some (.int .i64 (wrap64 (siz - sz))) := blk_cell hq3 6
        have d7 : w3.cell? ⟨b, 7, none⟩ = some (.slice none 0 0) := blk_cell hq3 7
        have d8 : w3.cell? ⟨b, 8, none⟩ = some (.bool fin) := blk_cell hq3 8
        have dl : w3.cell? ⟨w2.heap.size, 0, none⟩ = some (.slice la t lc) := blk_cell hl3 0
        have e1 : ((nf : Int) != a0 % 20) = false := by simp; omega
        have e2 : ((t : Int) != a6 % 5) = false := by simp; omega
        clear hq3 hl3
        unfold fullB at hF'
        by_cases hlp : 0 < lim
        · rw [if_pos hlp] at hF'
          have hF := of_decide_eq_false hF'
          clear hF'
          go_wp2_with fail
          go_loop [29] (fun i => ∃ s : Nat, s ≤ t ∧ i = .int .i64 s) (fun i => t - (intOf i).toNat)
          case atStart => exact ⟨0, Nat.zero_le _, rfl⟩
          case round =>
            obtain ⟨s, hs, rfl⟩ := hrel
            by_cases hst : s < t
            · obtain ⟨g, hla, hg⟩ := HC.out s hst
              subst hla
              have hst' : (s : Int) < (t : Int) := by omega
              go_wp2_with fail
              go_round
              case rel => exact ⟨s + 1, by omega, by go_num⟩
              case measure => simp [intOf]; omega
            · have hst' : a6 % 5 ≤ (s : Int) := by omega
              go_wp2_with fail
              go_ret
              exact ⟨rfl, hb3⟩
        · rw [if_neg hlp] at hF'
          have hF := of_decide_eq_false hF'
          clear hF'
          go_wp2_with fail
          go_loop [29] (fun i => ∃ s : Nat, s ≤ t ∧ i = .int .i64 s) (fun i => t - (intOf i).toNat)
          case atStart => exact ⟨0, Nat.zero_le _, rfl⟩
          case round =>
            obtain ⟨s, hs, rfl⟩ := hrel
            by_cases hst : s < t
            · obtain ⟨g, hla, hg⟩ := HC.out s hst
              subst hla
              have hst' : (s : Int) < (t : Int) := by omega
              go_wp2_with fail
              go_round
              case rel => exact ⟨s + 1, by omega, by go_num⟩
              case measure => simp [intOf]; omega
            · have hst' : a6 % 5 ≤ (s : Int) := by omega
              go_wp2_with fail
              go_ret
              exact ⟨rfl, hb3⟩
end Go.Proofs.Ybulkakzq.LawC
