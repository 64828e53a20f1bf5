/-
  LawS1836BRoutes: the walk.
-/
import Derived.Test.YbulkakzqTailG
import Derived.Deep.CutBlock
namespace Go.Proofs.Ybulkakzq.LawB
open Go.RowKit Wire Blocks RegSteps Still Dec Votes Callees Names Box Fam Sp Sorts Split Rd Route New Setup SortB CheckB
open Go.Shelf
set_option linter.unusedVariables false
set_option maxRecDepth 100000

set_option maxHeartbeats 64000000 in
theorem law_any (ta : Option Addr) (n tcap : Nat) (zs : List Nat) (q0 q1 q2 q3 : Nat) (g0 g1 g2 g3 child fp : Bool) (s : ByteArray) (a b : Int) (ab : Bool) (st : Int) (w : World) (hzl : zs.length = n)
    (hz : ∀ (j : Nat) (z : Nat), zs[j]? = some z → z ≤ 255 ∧ ∃ g off, ta = some ⟨g, off, none⟩ ∧ g < w.heap.size ∧ w.cell? ⟨g, off + j, none⟩ = some (.int .u8 z))
    (ho0 : q0 ≤ 255) (ho1 : q1 ≤ 255) (ho2 : q2 ≤ 255) (ho3 : q3 ≤ 255)
    (ha0 : 0 ≤ a) (ha : a ≤ 18446744073709551615) (hb0 : 0 ≤ b) (hb : b ≤ 18446744073709551615) (h0 : 0 ≤ st) (h1 : st ≤ 18446744073709551615) :
    Calls Yba.prog 4 #[.slice ta n tcap, .agg #[.int .u8 q0, .int .u8 q1, .int .u8 q2, .int .u8 q3], .agg #[.bool g0, .bool g1, .bool g2, .bool g3], .bool child, .bool fp, .string s, .int .u64 a, .int .u64 b, .bool ab, .int .u64 st] w fun e w' => e = .returned (.bool true) ∧ Below w.heap.size w w' := by
  have HZ : Hid (∀ (j : Nat) (z : Nat), zs[j]? = some z → z ≤ 255 ∧ ∃ g off, ta = some ⟨g, off, none⟩ ∧ g < w.heap.size ∧ w.cell? ⟨g, off + j, none⟩ = some (.int .u8 z)) := hz
  clear hz
  have en12 : ∀ args w, (callFunc 12 args).run Yba.prog w = .ok (.enter 12 args) w := enters_of Yba.func12 (by kernel_rfl) rfl
  have en13 : ∀ args w, (callFunc 13 args).run Yba.prog w = .ok (.enter 13 args) w := enters_of Yba.func13 (by kernel_rfl) rfl
  have en14 : ∀ args w, (callFunc 14 args).run Yba.prog w = .ok (.enter 14 args) w := enters_of Yba.func14 (by kernel_rfl) rfl
  have en10 : ∀ args w, (callFunc 10 args).run Yba.prog w = .ok (.enter 10 args) w := enters_of Yba.func10 (by kernel_rfl) rfl
  by_cases hn : n ≤ 1024
  · by_cases hs : s.size ≤ 1024
    · go_enter Yba.func4, Yba.ntmps4
      go_upto_if 60 with fail
      have hW0 : Hid (Below w.heap.size w (((((w.alloc (.cells #[.int .u8 q0, .int .u8 q1, .int .u8 q2, .int .u8 q3] 29)).alloc (.cells #[.bool g0, .bool g1, .bool g2, .bool g3] 30)).alloc (.cells #[.string ⟨#[97]⟩, .string ⟨#[98]⟩, .string ⟨#[99]⟩, .string ⟨#[100]⟩, .string ⟨#[101]⟩, .string ⟨#[102]⟩] 31)).alloc (.cells #[.string ⟨#[112, 48]⟩, .string ⟨#[112, 49]⟩, .string ⟨#[112, 50]⟩] 32)).alloc (.cells #[.slice none 0 0] 33))) := by
        have h0 := (Below.refl _ w).alloc (Nat.le_refl _) (.cells #[.int .u8 q0, .int .u8 q1, .int .u8 q2, .int .u8 q3] 29 (0, 0))
        have h1 := h0.alloc h0.size (.cells #[.bool g0, .bool g1, .bool g2, .bool g3] 30 (0, 0))
        have h2 := h1.alloc h1.size (.cells #[.string ⟨#[97]⟩, .string ⟨#[98]⟩, .string ⟨#[99]⟩, .string ⟨#[100]⟩, .string ⟨#[101]⟩, .string ⟨#[102]⟩] 31 (0, 0))
        have h3 := h2.alloc h2.size (.cells #[.string ⟨#[112, 48]⟩, .string ⟨#[112, 49]⟩, .string ⟨#[112, 50]⟩] 32 (0, 0))
        exact h3.alloc h3.size _
      generalize hW : (((((w.alloc (.cells #[.int .u8 q0, .int .u8 q1, .int .u8 q2, .int .u8 q3] 29)).alloc (.cells #[.bool g0, .bool g1, .bool g2, .bool g3] 30)).alloc (.cells #[.string ⟨#[97]⟩, .string ⟨#[98]⟩, .string ⟨#[99]⟩, .string ⟨#[100]⟩, .string ⟨#[101]⟩, .string ⟨#[102]⟩] 31)).alloc (.cells #[.string ⟨#[112, 48]⟩, .string ⟨#[112, 49]⟩, .string ⟨#[112, 50]⟩] 32)).alloc (.cells #[.slice none 0 0] 33)) = W0 at hW0 ⊢
      have H0 : Hid (W0.heap[w.heap.size]? = some (.cells #[.int .u8 q0, .int .u8 q1, .int .u8 q2, .int .u8 q3] 29 (0, 0)) ∧ W0.heap[w.heap.size + 1]? = some (.cells #[.bool g0, .bool g1, .bool g2, .bool g3] 30 (0, 0)) ∧ W0.heap[w.heap.size + 2]? = some (.cells #[.string ⟨#[97]⟩, .string ⟨#[98]⟩, .string ⟨#[99]⟩, .string ⟨#[100]⟩, .string ⟨#[101]⟩, .string ⟨#[102]⟩] 31 (0, 0)) ∧ W0.heap[w.heap.size + 3]? = some (.cells #[.string ⟨#[112, 48]⟩, .string ⟨#[112, 49]⟩, .string ⟨#[112, 50]⟩] 32 (0, 0)) ∧ W0.heap[w.heap.size + 4]? = some (logO (.slice none 0 0)) ∧ W0.heap.size = w.heap.size + 5) := by
        subst hW
        exact ⟨blk_alloc (blk_alloc (blk_alloc (blk_alloc (new_at rfl)))), blk_alloc (blk_alloc (blk_alloc (new_at (by simp)))), blk_alloc (blk_alloc (new_at (by simp))), blk_alloc (new_at (by simp)), new_at (by simp), by simp⟩
      clear hW
      go_cut [24] from 61 to 65 (fun s24 wx => ∃ gb nb c, s24 = .pointer (some ⟨gb, 0, none⟩) ∧ Hid (wx.heap[gb]? = some (.cells c 109 (0, 0)) ∧ c[11]? = some (.map (some nb)) ∧ c[3]? = some (.bool (!child)) ∧ SM wx nb [] ∧ w.heap.size ≤ nb ∧ Below W0.heap.size W0 wx))
      case first => -- STAGE A
        cases child with
        | true =>
          have hC := newg_box W0.heap.size (W0.alloc (boxO (-1) (w.heap.size + 4)))
          go_wp2_with fail
          refine hC.mono ?_
          rintro e w1 ⟨gb, nb, c, rfl, h1, h2, h3, h4, h5, h6, h7⟩
          have HX : Hid (w1.heap[gb]? = some (.cells c 109 (0, 0)) ∧ c[11]? = some (.map (some nb)) ∧ c[3]? = some (.bool (!true)) ∧ SM w1 nb [] ∧ w.heap.size ≤ nb ∧ Below W0.heap.size W0 w1) := ⟨h1, h2, h3, h4, by have := hW0.out.size; simp at h6; omega, ((Below.refl _ W0).alloc (Nat.le_refl _) _).trans (h7.mono (by simp))⟩
          clear hC h1 h2 h3 h4 h5 h6 h7
          go_wp2
          go_meet
          exact ⟨gb, nb, c, rfl, HX⟩
        | false =>
          have hC := newg_nil W0
          go_wp2_with fail
          refine hC.mono ?_
          rintro e w1 ⟨gb, nb, c, rfl, h1, h2, h3, h4, h5, h6, h7⟩
          have HX : Hid (w1.heap[gb]? = some (.cells c 109 (0, 0)) ∧ c[11]? = some (.map (some nb)) ∧ c[3]? = some (.bool (!false)) ∧ SM w1 nb [] ∧ w.heap.size ≤ nb ∧ Below W0.heap.size W0 w1) := ⟨h1, h2, h3, h4, by have := hW0.out.size; omega, h7⟩
          clear hC h1 h2 h3 h4 h5 h6 h7
          go_wp2
          go_meet
          exact ⟨gb, nb, c, rfl, HX⟩
      case rest =>
        obtain ⟨gb, nb, cg, rfl, hcg⟩ := hcut
        obtain ⟨w1, hw1⟩ : ∃ w1, w1 = wc := ⟨_, rfl⟩
        subst hw1
        go_upto_block 0 with fail
        have hsz0 : w.heap.size + 5 ≤ w1.heap.size := by have := hcg.out.2.2.2.2.2.size; rw [H0.out.2.2.2.2.2] at this; exact this
        have hblk : ∀ k o, W0.heap[k]? = some o → w1.heap[k]? = some o := fun k o hk => by rw [hcg.out.2.2.2.2.2.block _ (blk_lt hk)]; exact hk
        have hB2 : Hid (Base w ((w1.alloc (.cells #[.string s, .int .u64 a, .int .u64 b] 41)).alloc (.cells #[.pointer none, .pointer none, .pointer none] 43)) gb nb w1.heap.size q0 q1 q2 q3 g0 g1 g2 g3 child s a b) :=
          ⟨blk_alloc (blk_alloc (hblk _ _ H0.out.1)), blk_alloc (blk_alloc (hblk _ _ H0.out.2.1)), blk_alloc (blk_alloc (hblk _ _ H0.out.2.2.1)), blk_alloc (blk_alloc (hblk _ _ H0.out.2.2.2.1)), blk_alloc (new_at rfl), ⟨cg, blk_alloc (blk_alloc hcg.out.1), hcg.out.2.1, hcg.out.2.2.1⟩, by
            have h1 : Below w.heap.size w w1 := hW0.out.trans (hcg.out.2.2.2.2.2.mono hW0.out.size)
            have h2 := h1.alloc h1.size (.cells #[.string s, .int .u64 a, .int .u64 b] 41 (0, 0))
            exact h2.alloc h2.size _⟩
        have hL2 : Hid (((w1.alloc (.cells #[.string s, .int .u64 a, .int .u64 b] 41)).alloc (.cells #[.pointer none, .pointer none, .pointer none] 43)).heap[w.heap.size + 4]? = some (logO (.slice none 0 0)) ∧ SM ((w1.alloc (.cells #[.string s, .int .u64 a, .int .u64 b] 41)).alloc (.cells #[.pointer none, .pointer none, .pointer none] 43)) nb []) :=
          ⟨blk_alloc (blk_alloc (hblk _ _ H0.out.2.2.2.2.1)), (hcg.out.2.2.2.1.block (Below.heap_alloc _ _ _ hcg.out.2.2.2.1.lt)).block (Below.heap_alloc _ _ _ (by have := hcg.out.2.2.2.1.lt; simp; omega))⟩
        have hS2 : Hid (Su ((w1.alloc (.cells #[.string s, .int .u64 a, .int .u64 b] 41)).alloc (.cells #[.pointer none, .pointer none, .pointer none] 43)) (w1.heap.size + 1) (w.heap.size + 4) 0 (fun _ => 0) (fun _ => 0) (fun _ => 0) s a b) :=
          ⟨fun k hk => by omega, fun k hk => by omega, fun k k' hk => by omega, fun k k' hk => by omega, new_at (by simp), fun k hk => by omega⟩
        have hnb : w.heap.size ≤ nb := hcg.out.2.2.2.2.1
        generalize hW2 : ((w1.alloc (.cells #[.string s, .int .u64 a, .int .u64 b] 41)).alloc (.cells #[.pointer none, .pointer none, .pointer none] 43)) = w2 at hB2 hL2 hS2 ⊢
        generalize hib : w1.heap.size = ib at hB2 hS2 hsz0 ⊢
        clear hW2 hib hblk hcg H0 hW0
        go_cut [27, 28, 29] from 70 to 110 (fun _ _ _ wx => ∃ P X M : Nat → Nat, Hid (Base w wx gb nb ib q0 q1 q2 q3 g0 g1 g2 g3 child s a b) ∧ Hid (Su wx (ib + 1) (w.heap.size + 4) 3 P X M s a b) ∧ Hid (wx.heap[w.heap.size + 4]? = some (logO (.slice none 0 0)) ∧ SM wx nb []))
        case first => -- STAGE B
          go_wp2_with fail
          go_loopg [27, 28, 29] 3 (fun gg s27 _ _ wr => ∃ (i : Nat) (P X M : Nat → Nat), i ≤ 3 ∧ 3 - i ≤ gg ∧ s27 = .int .i64 i ∧ Hid (Base w wr gb nb ib q0 q1 q2 q3 g0 g1 g2 g3 child s a b) ∧ Hid (Su wr (ib + 1) (w.heap.size + 4) i P X M s a b) ∧ Hid (wr.heap[w.heap.size + 4]? = some (logO (.slice none 0 0)) ∧ SM wr nb []))
          case atStart => exact ⟨0, _, _, _, by omega, by omega, rfl, hB2, hS2, hL2⟩
          case round =>
            obtain ⟨i, P, X, M, hi, hgg, rfl, hB, hS, hL⟩ := hrel
            clear hB2 hS2 hL2
            by_cases hlt : i < 3
            · have hltz : (i : Int) < 3 := by omega
              obtain ⟨pn, hpn⟩ := pname_cell i hlt
              have c1 : wr.cell? ⟨w.heap.size + 1 + 1 + 1, i, none⟩ = some (.string pn) := (blk_cell hB.out.pna i).trans hpn
              clear hpn
              have hM := make_any (wr.heap.size + 1) 18 (.map none) ((wr.alloc (boxO i (w.heap.size + 4))).alloc (peerO pn i wr.heap.size (.map none))) (peer_cell _ pn i wr.heap.size (wr.heap.size + 1) (by simp)).1 (peer_cell _ pn i wr.heap.size (wr.heap.size + 1) (by simp)).2 (by simp)
              obtain ⟨hpe2, hum2, hbl2⟩ := peer_made wr pn i (w.heap.size + 4) s a b
              go_wp2_with fail
              refine hM.mono ?_
              rintro e w3 ⟨rfl, hw3⟩
              clear hM c1
              have hsz2 : ((wr.alloc (boxO i (w.heap.size + 4))).alloc (peerO pn i wr.heap.size (.map none))).heap.size = wr.heap.size + 2 := by simp
              rw [hsz2] at hw3
              have HPE : Hid (PeerAt w3 (wr.heap.size + 1) wr.heap.size (wr.heap.size + 2) (w.heap.size + 4) i) := hw3 ▸ hpe2
              have HUM : Hid (UM w3 (wr.heap.size + 2) s a b []) := hw3 ▸ hum2
              have hbl3 : Below wr.heap.size wr w3 := hw3 ▸ hbl2
              have hB3 : Hid (Base w w3 gb nb ib q0 q1 q2 q3 g0 g1 g2 g3 child s a b) := hB.out.below hbl3
              have hS3 : Hid (Su w3 (ib + 1) (w.heap.size + 4) i P X M s a b) := hS.out.quiet (Fr.of_below hbl3)
              have hL3 : Hid (w3.heap[w.heap.size + 4]? = some (logO (.slice none 0 0)) ∧ SM w3 nb []) := ⟨by rw [hbl3.block _ (blk_lt hL.out.1)]; exact hL.out.1, hL.out.2.block (hbl3.block _ hL.out.2.lt)⟩
              have hP3 : Hid (∀ k, k < i → P k ≠ wr.heap.size + 1) := fun k hk e => by
                obtain ⟨c, hc, _⟩ := (hS.out.pe k hk).link
                have := blk_lt hc
                omega
              have hM3 : Hid (∀ k, k < i → M k ≠ wr.heap.size + 2) := fun k hk e => by
                have := (hS.out.um k hk).lt
                omega
              have hpm : ib + 1 ≤ wr.heap.size + 2 := by have := blk_lt hS.out.blk; omega
              have hnm : nb ≠ wr.heap.size + 2 := fun e => by have := hL.out.2.lt; omega
              have hwm : w.heap.size ≤ wr.heap.size + 2 := by have := hB.out.low.size; omega
              generalize hpE : wr.heap.size + 1 = p at HPE hP3 ⊢
              generalize hmE : wr.heap.size + 2 = m at HPE HUM hM3 hnm hwm hpm
              generalize hxE : wr.heap.size = xb at HPE
              clear hpE hmE hxE hw3 hbl3 hbl2 hum2 hpe2 hsz2 hB hS hL
              go_upto_block 2 with fail
              go_cut [29] from 93 to 107 (fun _ wx => Hid (Fr w3.heap.size (fun k => k = m) w3 wx) ∧ Hid (UM wx m s a b six))
              case first => -- STAGE B1
                go_wp2_with fail
                go_loopg [29] 6 (fun gg s29 wx => ∃ j : Nat, j ≤ 6 ∧ 6 - j ≤ gg ∧ s29 = .int .i64 j ∧ Hid (Fr w3.heap.size (fun k => k = m) w3 wx) ∧ Hid (UM wx m s a b (six.take j)))
                case atStart => exact ⟨0, by omega, by omega, rfl, Fr.refl _ _ _, HUM⟩
                case round =>
                  obtain ⟨j, hj, hgg2, rfl, hF, hU⟩ := hrel
                  by_cases hjl : j < 6
                  · have hjz : (j : Int) < 6 := by omega
                    have hnot := nameAt_not j hjl
                    obtain ⟨cp, hcp, _, _, p18⟩ := HPE.out.link
                    have hI0 : (∃ c, wr.heap[p]? = some (.cells c 71 (0, 0)) ∧ c[18]? = some (.map (some m))) ∧ wr.heap[ib]? = some (.cells #[.string s, .int .u64 a, .int .u64 b] 41 (0, 0)) ∧ wr.cell? ⟨w.heap.size + 1 + 1, j, none⟩ = some (.string (nameAt j)) :=
                      ⟨⟨cp, by rw [hF.out.block _ (blk_lt hcp) (fun e => um_not_cells HUM.out (e ▸ hcp))]; exact hcp, p18⟩, by rw [hF.out.block _ (blk_lt hB3.out.idb) (fun e => um_not_cells HUM.out (e ▸ hB3.out.idb))]; exact hB3.out.idb, by
                        rw [blk_cell (b := w.heap.size + 1 + 1) (T := 31) (by rw [hF.out.block _ (blk_lt hB3.out.nam) (fun e => um_not_cells HUM.out (e ▸ hB3.out.nam))]; exact hB3.out.nam)]
                        exact name_cell j hjl⟩
                    go_wp2_with fail
                    refine wp_region_any (by kernel_rfl) (anyI.any (L := 99) (I := fun w' => (∃ c, w'.heap[p]? = some (.cells c 71 (0, 0)) ∧ c[18]? = some (.map (some m))) ∧ w'.heap[ib]? = some (.cells #[.string s, .int .u64 a, .int .u64 b] 41 (0, 0)) ∧ w'.cell? ⟨w.heap.size + 1 + 1, j, none⟩ = some (.string (nameAt j))) ?_)
                    generalize hwd : ({ heap := wr.heap, tape := wr.tape, drawn := wr.drawn + 1, os := wr.os, output := wr.output } : World) = wd
                    have hI : Hid ((∃ c, wd.heap[p]? = some (.cells c 71 (0, 0)) ∧ c[18]? = some (.map (some m))) ∧ wd.heap[ib]? = some (.cells #[.string s, .int .u64 a, .int .u64 b] 41 (0, 0)) ∧ wd.cell? ⟨w.heap.size + 1 + 1, j, none⟩ = some (.string (nameAt j))) := by subst hwd; exact hI0
                    have hFd : Hid (Fr w3.heap.size (fun k => k = m) w3 wd) := by subst hwd; exact hF.out.drew
                    have hUd : Hid (UM wd m s a b (six.take j)) := by subst hwd; exact hU
                    clear hwd hI0 hF hU
                    refine takeI (i := 0) (v := .pointer (some ⟨p, 0, none⟩)) rfl (by kernel_rfl) (by kernel_rfl) (by kernel_rfl) (by kernel_rfl) (fun _ _ _ h => h) hI.out ⟨by rfl, fun w' h => by go_simp⟩ ?_
                    refine takeI (i := 1) (v := .pointer (some ⟨p, 0, none⟩)) rfl (by kernel_rfl) (by kernel_rfl) (by kernel_rfl) (by kernel_rfl) (fun _ _ _ h => h) hI.out ⟨by rfl, fun w' h => by go_simp⟩ ?_
                    refine takeI (i := 2) (v := .pointer (some ⟨p, 18, none⟩)) rfl (by kernel_rfl) (by kernel_rfl) (by kernel_rfl) (by kernel_rfl) (fun _ _ _ h => h) hI.out ⟨by rfl, fun w' h => by go_simp⟩ ?_
                    refine takeI (i := 3) (v := .pointer (some ⟨p, 18, none⟩)) rfl (by kernel_rfl) (by kernel_rfl) (by kernel_rfl) (by kernel_rfl) (fun _ _ _ h => h) hI.out ⟨by rfl, fun w' h => by go_simp⟩ ?_
                    refine takeI (i := 4) (v := .map (some m)) rfl (by kernel_rfl) (by kernel_rfl) (by kernel_rfl) (by kernel_rfl) (fun _ _ _ h => h) hI.out ⟨by rfl, fun w' h => by obtain ⟨⟨c, hc, h18⟩, _⟩ := h; have c0 := (blk_cell hc 18).trans h18; go_simp⟩ ?_
                    refine takeI (i := 5) (v := .agg #[.string s, .int .u64 a, .int .u64 b]) rfl (by kernel_rfl) (by kernel_rfl) (by kernel_rfl) (by kernel_rfl) (fun _ _ _ h => h) hI.out ⟨by rfl, fun w' h => by have c0 := cellLit h.2.1 0; have c1 := cellLit h.2.1 1; have c2 := cellLit h.2.1 2; simp at c0 c1 c2; go_simp⟩ ?_
                    refine takeI (i := 6) (v := .int .i64 j) rfl (by kernel_rfl) (by kernel_rfl) (by kernel_rfl) (by kernel_rfl) (fun _ _ _ h => h) hI.out ⟨by rfl, fun w' h => by go_simp⟩ ?_
                    refine takeI (i := 7) (v := .pointer (some ⟨w.heap.size + 1 + 1, j, none⟩)) rfl (by kernel_rfl) (by kernel_rfl) (by kernel_rfl) (by kernel_rfl) (fun _ _ _ h => h) hI.out ⟨by rfl, fun w' h => by go_simp⟩ ?_
                    refine takeI (i := 8) (v := .string (nameAt j)) rfl (by kernel_rfl) (by kernel_rfl) (by kernel_rfl) (by kernel_rfl) (fun _ _ _ h => h) hI.out ⟨by rfl, fun w' h => by have c0 := h.2.2; go_simp⟩ ?_
                    refine takeI (i := 9) (v := .agg #[.string s, .int .u64 a, .int .u64 b, .string (nameAt j)]) rfl (by kernel_rfl) (by kernel_rfl) (by kernel_rfl) (by kernel_rfl) (fun _ _ _ h => h) hI.out ⟨by rfl, fun w' h => by go_simp⟩ ?_
                    refine oneI (i := 10) rfl (by kernel_rfl) (fun K hK => ?_)
                    refine step_call rfl 10 _ _ rfl #[.map (some m), .agg #[.string s, .int .u64 a, .int .u64 b, .string (nameAt j)]] (by go_simp) (en10 _ _) (put_any m s a b (six.take j) (nameAt j) _ hUd.out hnot) ?_
                    rintro e w4 ⟨rfl, hU4, hF4⟩
                    have hne : ∀ {k T : Nat} {c : Array Value}, wd.heap[k]? = some (.cells c T (0, 0)) → w4.heap[k]? = some (.cells c T (0, 0)) := fun hk => by
                      rw [hF4.block _ (blk_lt hk) (fun e => um_not_cells hUd.out (e ▸ hk))]; exact hk
                    have HU4 : Hid (UM w4 m s a b (six.take (j + 1))) := by rw [six_take j hjl]; exact hU4
                    have HF4 : Hid (Fr w3.heap.size (fun k => k = m) w3 w4) := hFd.out.trans (hF4.mono hFd.out.size (fun _ _ h => h))
                    have hI4 : (∃ c, w4.heap[p]? = some (.cells c 71 (0, 0)) ∧ c[18]? = some (.map (some m))) ∧ w4.heap[ib]? = some (.cells #[.string s, .int .u64 a, .int .u64 b] 41 (0, 0)) ∧ w4.cell? ⟨w.heap.size + 1 + 1, j, none⟩ = some (.string (nameAt j)) := by
                      obtain ⟨⟨c, hc, h18⟩, h2, h3⟩ := hI.out
                      refine ⟨⟨c, hne hc, h18⟩, hne h2, ?_⟩
                      rw [blk_cell (b := w.heap.size + 1 + 1) (T := 31) (by rw [HF4.out.block _ (blk_lt hB3.out.nam) (fun e => um_not_cells HUM.out (e ▸ hB3.out.nam))]; exact hB3.out.nam)]
                      exact name_cell j hjl
                    refine ⟨_, rfl, hK _ _ (fun _ => hI4) ?_⟩
                    clear hK K hU4 hF4 hne hI4 hI hFd hUd
                    refine doneI (by kernel_rfl) ?_ _
                    go_wp2
                    go_roundg (6 - (j + 1))
                    case measure => omega
                    case rel => exact ⟨j + 1, by omega, Nat.le_refl _, rfl, HF4, HU4⟩
                  · have hjz : ¬ ((j : Int) < 6) := by omega
                    obtain rfl : j = 6 := by omega
                    go_wp2
                    go_meet
                    exact ⟨hF, hU⟩
              case rest =>
                obtain ⟨hF, hU⟩ := hcut
                obtain ⟨w4, hw4⟩ : ∃ w4, w4 = wc := ⟨_, rfl⟩
                subst hw4
                have hoff : ∀ Ts, Off w3 (fun k => k = m) Ts := fun Ts => by
                  obtain ⟨es, cl, h1, _⟩ := HUM.out
                  exact off_map h1 Ts
                have hB4 : Hid (Base w w4 gb nb ib q0 q1 q2 q3 g0 g1 g2 g3 child s a b) := hB3.out.fr hF.out (hoff _) (fun k e => by rw [e]; exact hwm)
                have hS4 : Hid (Su w4 (ib + 1) (w.heap.size + 4) i P X M s a b) := hS3.out.fr hF.out (hoff _) (fun k hk e => hM3.out k hk e)
                have hpe4 : Hid (PeerAt w4 p xb m (w.heap.size + 4) i) := by
                  obtain ⟨c, hc, r⟩ := HPE.out.link
                  exact ⟨⟨c, off_blk hF.out (hoff [71]) hc (by decide), r⟩, off_blk hF.out (hoff [39]) HPE.out.box (by decide)⟩
                have hL4 : Hid (w4.heap[w.heap.size + 4]? = some (logO (.slice none 0 0)) ∧ SM w4 nb []) := ⟨off_blk hF.out (hoff [33]) hL3.out.1 (by decide), hL3.out.2.block (hF.out.block _ hL3.out.2.lt hnm)⟩
                have hS5 := hS4.out.more hlt hpe4.out hU.out hP3.out hM3.out hpm
                have c1 : w4.cell? ⟨ib + 1, i, none⟩ = some (pAt P i i) := by
                  rw [blk_cell hS4.out.blk]
                  have : i = 0 ∨ i = 1 ∨ i = 2 := by omega
                  rcases this with rfl | rfl | rfl <;> rfl
                have f1 : w4.frozen? ⟨ib + 1, i, none⟩ = false := blk_free hS4.out.blk i
                have hoffp : ∀ Ts, 43 ∉ Ts → Off w4 (fun k => k = ib + 1) Ts := fun Ts h => off_type hS4.out.blk h
                have hfp : Fr w4.heap.size (fun k => k = ib + 1) w4 (w4.setCell ⟨ib + 1, i, none⟩ (.pointer (some ⟨p, 0, none⟩))) := (Fr.refl _ (fun k => k = ib + 1) w4).setCell (p := ⟨ib + 1, i, none⟩) (.inr rfl) _
                have HB5 : Hid (Base w (w4.setCell ⟨ib + 1, i, none⟩ (.pointer (some ⟨p, 0, none⟩))) gb nb ib q0 q1 q2 q3 g0 g1 g2 g3 child s a b) := hB4.out.fr hfp (hoffp _ (by decide)) (fun k e => by rw [e]; omega)
                have HL5 : Hid ((w4.setCell ⟨ib + 1, i, none⟩ (.pointer (some ⟨p, 0, none⟩))).heap[w.heap.size + 4]? = some (logO (.slice none 0 0)) ∧ SM (w4.setCell ⟨ib + 1, i, none⟩ (.pointer (some ⟨p, 0, none⟩))) nb []) := ⟨off_blk hfp (hoffp [33] (by decide)) hL4.out.1 (by decide), hL4.out.2.block (hfp.block _ hL4.out.2.lt (fun e => by
                  obtain ⟨es, cl, h1, _⟩ := hL4.out.2
                  have e : nb = ib + 1 := e
                  rw [e, hS4.out.blk] at h1
                  cases h1))⟩
                have HS5 : Hid (Su (w4.setCell ⟨ib + 1, i, none⟩ (.pointer (some ⟨p, 0, none⟩))) (ib + 1) (w.heap.size + 4) (i + 1) _ _ _ s a b) := hS5
                clear hS5 hoffp hfp hoff hF hU hB3 hS3 hL3 HPE HUM hB4 hS4 hpe4 hL4
                go_wp2
                go_roundg (3 - (i + 1))
                case measure => omega
                case rel => exact ⟨i + 1, _, _, _, by omega, Nat.le_refl _, rfl, HB5, HS5, HL5⟩
            · have hge : ¬ ((i : Int) < 3) := by omega
              obtain rfl : i = 3 := by omega
              go_wp2
              go_meet
              exact ⟨P, X, M, hB, hS, hL⟩
        case rest =>
          obtain ⟨P, X, M, hB, hS, hL⟩ := hcut
          obtain ⟨w4, hw4⟩ : ∃ w4, w4 = wc := ⟨_, rfl⟩
          subst hw4
          clear hB2 hS2 hL2
          go_upto_block 4 with fail
          go_cut [30] from 111 to 133 (fun _ wx => ∃ C : Nat → Nat, Hid (Base w wx gb nb ib q0 q1 q2 q3 g0 g1 g2 g3 child s a b) ∧ Hid (Su wx (ib + 1) (w.heap.size + 4) 3 P X M s a b) ∧ Hid (wx.heap[w.heap.size + 4]? = some (logO (.slice none 0 0))) ∧ Hid (Cl wx nb 4 C P (fun k => oN q0 q1 q2 q3 k % 3) (gN g0 g1 g2 g3)))
          case first => -- STAGE C
            go_wp2_with fail
            go_loopg [30] 4 (fun gg s30 wr => ∃ (i : Nat) (C : Nat → Nat), i ≤ 4 ∧ 4 - i ≤ gg ∧ s30 = .int .i64 i ∧ Hid (Base w wr gb nb ib q0 q1 q2 q3 g0 g1 g2 g3 child s a b) ∧ Hid (Su wr (ib + 1) (w.heap.size + 4) 3 P X M s a b) ∧ Hid (wr.heap[w.heap.size + 4]? = some (logO (.slice none 0 0))) ∧ Hid (Cl wr nb i C P (fun k => oN q0 q1 q2 q3 k % 3) (gN g0 g1 g2 g3)))
            case atStart => exact ⟨0, fun _ => 0, by omega, by omega, rfl, hB, hS, hid hL.out.1, hid ⟨hL.out.2, fun k hk => by omega⟩⟩
            case round =>
              obtain ⟨i, C, hi, hgg, rfl, hB1, hS1, hL1, hC1⟩ := hrel
              clear hB hS hL
              by_cases hlt : i < 4
              · have hltz : (i : Int) < 4 := by omega
                have hq := oN_le ho0 ho1 ho2 ho3 i
                obtain ⟨k3, hk3⟩ : ∃ k3, k3 = oN q0 q1 q2 q3 i % 3 := ⟨_, rfl⟩
                have HK3 : Hid (k3 = oN q0 q1 q2 q3 i % 3) := hk3
                have hq3 : k3 < 3 := by rw [hk3]; exact Nat.mod_lt _ (by decide)
                have hkz : ((oN q0 q1 q2 q3 i : Nat) : Int) % 3 = (k3 : Int) := by omega
                have htm : ((oN q0 q1 q2 q3 i : Nat) : Int).tmod 3 = (k3 : Int) := by rw [Int.tmod_eq_emod_of_nonneg (by omega)]; exact hkz
                have hk3z : (k3 : Int) < 3 := by omega
                have hi6 : (i : Int) < 6 := by omega
                have hwr : IntKind.i64.wrap ((oN q0 q1 q2 q3 i : Nat) : Int) = ((oN q0 q1 q2 q3 i : Nat) : Int) := IntWalk.i64_in _ (by omega)
                clear hk3
                have hI0 : wr.cell? ⟨gb, 11, none⟩ = some (.map (some nb)) ∧ wr.cell? ⟨w.heap.size + 1 + 1, i, none⟩ = some (.string (nameAt i)) ∧ wr.cell? ⟨w.heap.size, i, none⟩ = some (.int .u8 (oN q0 q1 q2 q3 i)) ∧ wr.cell? ⟨ib + 1, k3, none⟩ = some (.pointer (some ⟨P k3, 0, none⟩)) ∧ wr.cell? ⟨w.heap.size + 1, i, none⟩ = some (.bool (gN g0 g1 g2 g3 i)) := by
                  obtain ⟨c, hc, h11, _⟩ := hB1.out.grp
                  exact ⟨(blk_cell hc 11).trans h11, (blk_cell (b := w.heap.size + 1 + 1) hB1.out.nam i).trans (name_cell i (by omega)), (blk_cell hB1.out.own i).trans (own_cell q0 q1 q2 q3 i hlt), (blk_cell hS1.out.blk _).trans (parr_cell P _ hq3), (blk_cell hB1.out.gra i).trans (gra_cell g0 g1 g2 g3 i hlt)⟩
                go_wp2_with fail
                refine wp_region_any (by kernel_rfl) (anyI.any (L := 99) (I := fun w' => w'.cell? ⟨gb, 11, none⟩ = some (.map (some nb)) ∧ w'.cell? ⟨w.heap.size + 1 + 1, i, none⟩ = some (.string (nameAt i)) ∧ w'.cell? ⟨w.heap.size, i, none⟩ = some (.int .u8 (oN q0 q1 q2 q3 i)) ∧ w'.cell? ⟨ib + 1, k3, none⟩ = some (.pointer (some ⟨P k3, 0, none⟩)) ∧ w'.cell? ⟨w.heap.size + 1, i, none⟩ = some (.bool (gN g0 g1 g2 g3 i))) ?_)
                generalize hwd : ({ heap := wr.heap, tape := wr.tape, drawn := wr.drawn + 1, os := wr.os, output := wr.output } : World) = wd
                have hfd : Fr wr.heap.size (fun _ => False) wr wd := by subst hwd; exact ⟨rfl, rfl, rfl, Nat.le_refl _, fun _ _ _ => rfl⟩
                have hI : Hid (wd.cell? ⟨gb, 11, none⟩ = some (.map (some nb)) ∧ wd.cell? ⟨w.heap.size + 1 + 1, i, none⟩ = some (.string (nameAt i)) ∧ wd.cell? ⟨w.heap.size, i, none⟩ = some (.int .u8 (oN q0 q1 q2 q3 i)) ∧ wd.cell? ⟨ib + 1, k3, none⟩ = some (.pointer (some ⟨P k3, 0, none⟩)) ∧ wd.cell? ⟨w.heap.size + 1, i, none⟩ = some (.bool (gN g0 g1 g2 g3 i))) := by subst hwd; exact hI0
                have hBd : Hid (Base w wd gb nb ib q0 q1 q2 q3 g0 g1 g2 g3 child s a b) := hB1.out.quiet hfd
                have hSd : Hid (Su wd (ib + 1) (w.heap.size + 4) 3 P X M s a b) := hS1.out.quiet hfd
                have hLd : Hid (wd.heap[w.heap.size + 4]? = some (logO (.slice none 0 0))) := by rw [hfd.block _ (blk_lt hL1.out) (fun h => h)]; exact hL1
                have hCd : Hid (Cl wd nb i C P (fun k => oN q0 q1 q2 q3 k % 3) (gN g0 g1 g2 g3)) := hC1.out.fr hfd (off_no _ _) (fun h => h)
                clear hwd hfd hI0 hB1 hS1 hL1 hC1
                refine takeI (i := 0) (v := .pointer (some ⟨gb, 0, none⟩)) rfl (by kernel_rfl) (by kernel_rfl) (by kernel_rfl) (by kernel_rfl) (fun _ _ _ h => h) hI.out ⟨by rfl, fun w' h => by go_simp⟩ ?_
                refine takeI (i := 1) (v := .pointer (some ⟨gb, 0, none⟩)) rfl (by kernel_rfl) (by kernel_rfl) (by kernel_rfl) (by kernel_rfl) (fun _ _ _ h => h) hI.out ⟨by rfl, fun w' h => by go_simp⟩ ?_
                refine takeI (i := 2) (v := .pointer (some ⟨gb, 11, none⟩)) rfl (by kernel_rfl) (by kernel_rfl) (by kernel_rfl) (by kernel_rfl) (fun _ _ _ h => h) hI.out ⟨by rfl, fun w' h => by go_simp⟩ ?_
                refine takeI (i := 3) (v := .map (some nb)) rfl (by kernel_rfl) (by kernel_rfl) (by kernel_rfl) (by kernel_rfl) (fun _ _ _ h => h) hI.out ⟨by rfl, fun w' h => by have c0 := h.1; go_simp⟩ ?_
                refine takeI (i := 4) (v := .int .i64 i) rfl (by kernel_rfl) (by kernel_rfl) (by kernel_rfl) (by kernel_rfl) (fun _ _ _ h => h) hI.out ⟨by rfl, fun w' h => by go_simp⟩ ?_
                refine takeI (i := 5) (v := .pointer (some ⟨w.heap.size + 1 + 1, i, none⟩)) rfl (by kernel_rfl) (by kernel_rfl) (by kernel_rfl) (by kernel_rfl) (fun _ _ _ h => h) hI.out ⟨by rfl, fun w' h => by go_simp⟩ ?_
                refine takeI (i := 6) (v := .string (nameAt i)) rfl (by kernel_rfl) (by kernel_rfl) (by kernel_rfl) (by kernel_rfl) (fun _ _ _ h => h) hI.out ⟨by rfl, fun w' h => by have c0 := h.2.1; go_simp⟩ ?_
                refine takeI (i := 7) (v := .int .i64 i) rfl (by kernel_rfl) (by kernel_rfl) (by kernel_rfl) (by kernel_rfl) (fun _ _ _ h => h) hI.out ⟨by rfl, fun w' h => by go_simp⟩ ?_
                refine takeI (i := 8) (v := .pointer (some ⟨w.heap.size, i, none⟩)) rfl (by kernel_rfl) (by kernel_rfl) (by kernel_rfl) (by kernel_rfl) (fun _ _ _ h => h) hI.out ⟨by rfl, fun w' h => by go_simp⟩ ?_
                refine takeI (i := 9) (v := .int .u8 (oN q0 q1 q2 q3 i)) rfl (by kernel_rfl) (by kernel_rfl) (by kernel_rfl) (by kernel_rfl) (fun _ _ _ h => h) hI.out ⟨by rfl, fun w' h => by have c0 := h.2.2.1; go_simp⟩ ?_
                refine takeI (i := 10) (v := .int .i64 (oN q0 q1 q2 q3 i)) rfl (by kernel_rfl) (by kernel_rfl) (by kernel_rfl) (by kernel_rfl) (fun _ _ _ h => h) hI.out ⟨by rfl, fun w' h => by go_simp⟩ ?_
                refine takeI (i := 11) (v := .int .i64 k3) rfl (by kernel_rfl) (by kernel_rfl) (by kernel_rfl) (by kernel_rfl) (fun _ _ _ h => h) hI.out ⟨by rfl, fun w' h => by go_simp⟩ ?_
                refine takeI (i := 12) (v := .pointer (some ⟨ib + 1, k3, none⟩)) rfl (by kernel_rfl) (by kernel_rfl) (by kernel_rfl) (by kernel_rfl) (fun _ _ _ h => h) hI.out ⟨by rfl, fun w' h => by go_simp⟩ ?_
                refine takeI (i := 13) (v := .pointer (some ⟨P k3, 0, none⟩)) rfl (by kernel_rfl) (by kernel_rfl) (by kernel_rfl) (by kernel_rfl) (fun _ _ _ h => h) hI.out ⟨by rfl, fun w' h => by have c0 := h.2.2.2.1; go_simp⟩ ?_
                refine takeI (i := 14) (v := .int .i64 i) rfl (by kernel_rfl) (by kernel_rfl) (by kernel_rfl) (by kernel_rfl) (fun _ _ _ h => h) hI.out ⟨by rfl, fun w' h => by go_simp⟩ ?_
                refine takeI (i := 15) (v := .pointer (some ⟨w.heap.size + 1, i, none⟩)) rfl (by kernel_rfl) (by kernel_rfl) (by kernel_rfl) (by kernel_rfl) (fun _ _ _ h => h) hI.out ⟨by rfl, fun w' h => by go_simp⟩ ?_
                refine takeI (i := 16) (v := .bool (gN g0 g1 g2 g3 i)) rfl (by kernel_rfl) (by kernel_rfl) (by kernel_rfl) (by kernel_rfl) (fun _ _ _ h => h) hI.out ⟨by rfl, fun w' h => by have c0 := h.2.2.2.2; go_simp⟩ ?_
                refine takeI (i := 17) (v := .agg #[.pointer (some ⟨P k3, 0, none⟩), .string ⟨#[]⟩, .map none, .bool false, .bool false, .bool false, .int .u64 0, .bool false, .int .u64 0, .int .u64 0, .int .u64 0, .bool false, .bool (gN g0 g1 g2 g3 i), .int .i64 0, .map none, .bool false, .int .u64 0, .int .u64 0, .int .u64 0, .pointer none, .map none, .bool false, .bool false, .int .u64 0]) rfl (by kernel_rfl) (by kernel_rfl) (by kernel_rfl) (by kernel_rfl) (fun _ _ _ h => h) hI.out ⟨by rfl, fun w' h => by go_simp⟩ ?_
                refine oneI (i := 18) rfl (by kernel_rfl) (fun K hK => ?_)
                go_simp
                have hIa : (wd.alloc (claimO (P k3) (gN g0 g1 g2 g3 i))).cell? ⟨gb, 11, none⟩ = some (.map (some nb)) ∧ (wd.alloc (claimO (P k3) (gN g0 g1 g2 g3 i))).cell? ⟨w.heap.size + 1 + 1, i, none⟩ = some (.string (nameAt i)) ∧ (wd.alloc (claimO (P k3) (gN g0 g1 g2 g3 i))).cell? ⟨w.heap.size, i, none⟩ = some (.int .u8 (oN q0 q1 q2 q3 i)) ∧ (wd.alloc (claimO (P k3) (gN g0 g1 g2 g3 i))).cell? ⟨ib + 1, k3, none⟩ = some (.pointer (some ⟨P k3, 0, none⟩)) ∧ (wd.alloc (claimO (P k3) (gN g0 g1 g2 g3 i))).cell? ⟨w.heap.size + 1, i, none⟩ = some (.bool (gN g0 g1 g2 g3 i)) := ⟨Lib.cell?_alloc_some _ hI.out.1, Lib.cell?_alloc_some _ hI.out.2.1, Lib.cell?_alloc_some _ hI.out.2.2.1, Lib.cell?_alloc_some _ hI.out.2.2.2.1, Lib.cell?_alloc_some _ hI.out.2.2.2.2⟩
                refine hK _ _ (fun _ => hIa) ?_
                clear hK K
                have hbl : Below wd.heap.size wd (wd.alloc (claimO (P k3) (gN g0 g1 g2 g3 i))) := (Below.refl _ wd).alloc (Nat.le_refl _) _
                obtain ⟨w5, hrun, hsm5, hg5⟩ := upd_run (hCd.out.sm.block (w' := wd.alloc (claimO (P k3) (gN g0 g1 g2 g3 i))) (hbl.block _ hCd.out.sm.lt)) (.pointer (some ⟨wd.heap.size, 0, none⟩)) (claimL_ne (by omega : i < 6) C)
                simp only [claimO] at hrun
                have hmap : ∃ es cl, (wd.alloc (claimO (P k3) (gN g0 g1 g2 g3 i))).heap[nb]? = some (.map es cl) := by
                  obtain ⟨es, cl, h1, _⟩ := hCd.out.sm
                  exact ⟨es, cl, blk_alloc h1⟩
                obtain ⟨es5, cl5, hmap⟩ := hmap
                have hf5 : Fr (wd.alloc (claimO (P k3) (gN g0 g1 g2 g3 i))).heap.size (fun k => k = nb) (wd.alloc (claimO (P k3) (gN g0 g1 g2 g3 i))) w5 := (Fr.refl _ (fun k => k = nb) _).grown hg5 (Nat.le_refl _) (fun k hk => .inr (Option.some.inj hk).symm)
                have HB5 : Hid (Base w w5 gb nb ib q0 q1 q2 q3 g0 g1 g2 g3 child s a b) := (hBd.out.below hbl).fr hf5 (off_map hmap _) (fun k e => by rw [e]; exact hnb)
                have HS5 : Hid (Su w5 (ib + 1) (w.heap.size + 4) 3 P X M s a b) := (hSd.out.quiet (Fr.of_below hbl)).fr hf5 (off_map hmap _) (fun k hk e => um_sm_ne (hSd.out.um k hk) hCd.out.sm e)
                have HL5 : Hid (w5.heap[w.heap.size + 4]? = some (logO (.slice none 0 0))) := off_blk hf5 (off_map hmap [33]) (blk_alloc hLd.out) (by decide)
                have HC5 : Hid (Cl w5 nb (i + 1) (fun k => if k = i then wd.heap.size else C k) P (fun k => oN q0 q1 q2 q3 k % 3) (gN g0 g1 g2 g3)) := hCd.out.more hsm5 (by rw [← HK3.out]; exact hg5)
                have hne : ∀ {k T : Nat} {c : Array Value} {j : Nat} {v : Value}, (wd.alloc (claimO (P k3) (gN g0 g1 g2 g3 i))).cell? ⟨k, j, none⟩ = some v → k ≠ nb → w5.cell? ⟨k, j, none⟩ = some v := fun h hk => hg5.cell h (fun e => hk (Option.some.inj e))
                have hcn : ∀ {k j : Nat} {v : Value}, (wd.alloc (claimO (P k3) (gN g0 g1 g2 g3 i))).cell? ⟨k, j, none⟩ = some v → k ≠ nb := fun {k j v} h e => by
                  subst e
                  simp [World.cell?, hmap] at h
                have hI5 : w5.cell? ⟨gb, 11, none⟩ = some (.map (some nb)) ∧ w5.cell? ⟨w.heap.size + 1 + 1, i, none⟩ = some (.string (nameAt i)) ∧ w5.cell? ⟨w.heap.size, i, none⟩ = some (.int .u8 (oN q0 q1 q2 q3 i)) ∧ w5.cell? ⟨ib + 1, k3, none⟩ = some (.pointer (some ⟨P k3, 0, none⟩)) ∧ w5.cell? ⟨w.heap.size + 1, i, none⟩ = some (.bool (gN g0 g1 g2 g3 i)) := ⟨hg5.cell hIa.1 (fun e => hcn hIa.1 (Option.some.inj e)), hg5.cell hIa.2.1 (fun e => hcn hIa.2.1 (Option.some.inj e)), hg5.cell hIa.2.2.1 (fun e => hcn hIa.2.2.1 (Option.some.inj e)), hg5.cell hIa.2.2.2.1 (fun e => hcn hIa.2.2.2.1 (Option.some.inj e)), hg5.cell hIa.2.2.2.2 (fun e => hcn hIa.2.2.2.2 (Option.some.inj e))⟩
                clear hne hcn hf5 hmap hg5 hsm5 hbl hIa hI hBd hSd hLd hCd
                refine oneI (i := 19) rfl (by kernel_rfl) (fun K hK => ?_)
                go_simp
                refine hK _ _ (fun _ => hI5) ?_
                clear hK K hrun hI5
                refine doneI (by kernel_rfl) ?_ _
                go_wp2
                go_roundg (4 - (i + 1))
                case measure => omega
                case rel => exact ⟨i + 1, _, by omega, Nat.le_refl _, rfl, HB5, HS5, HL5, HC5⟩
              · have hge : ¬ ((i : Int) < 4) := by omega
                obtain rfl : i = 4 := by omega
                go_wp2
                go_meet
                exact ⟨C, hB1, hS1, hL1, hC1⟩
          case rest =>
            obtain ⟨C, hB, hS, hL, hC⟩ := hcut
            obtain ⟨w5, hw5⟩ : ∃ w5, w5 = wc := ⟨_, rfl⟩
            subst hw5
            go_upto_region 26 with fail
            go_cut [134] from 135 to 141 (fun _ wx => ∃ C : Nat → Nat, Hid (Base w wx gb nb ib q0 q1 q2 q3 g0 g1 g2 g3 child s a b) ∧ Hid (Su wx (ib + 1) (w.heap.size + 4) 3 P X M s a b) ∧ Hid (wx.heap[w.heap.size + 4]? = some (logO (.slice none 0 0))) ∧ Hid (Cl wx nb 5 C P (fun k => oN q0 q1 q2 q3 k % 3) (gN g0 g1 g2 g3)))
            case first => -- STAGE D
              have hI0 : w5.cell? ⟨gb, 11, none⟩ = some (.map (some nb)) ∧ w5.cell? ⟨ib + 1, 0, none⟩ = some (.pointer (some ⟨P 0, 0, none⟩)) := by
                obtain ⟨c, hc, h11, _⟩ := hB.out.grp
                exact ⟨(blk_cell hc 11).trans h11, (blk_cell hS.out.blk 0).trans (parr_cell P 0 (by omega))⟩
              refine wp_region_any (by kernel_rfl) (anyI.any (L := 99) (I := fun w' => w'.cell? ⟨gb, 11, none⟩ = some (.map (some nb)) ∧ w'.cell? ⟨ib + 1, 0, none⟩ = some (.pointer (some ⟨P 0, 0, none⟩))) ?_)
              generalize hwd : ({ heap := w5.heap, tape := w5.tape, drawn := w5.drawn + 1, os := w5.os, output := w5.output } : World) = wd
              have hfd : Fr w5.heap.size (fun _ => False) w5 wd := by subst hwd; exact ⟨rfl, rfl, rfl, Nat.le_refl _, fun _ _ _ => rfl⟩
              have hI : Hid (wd.cell? ⟨gb, 11, none⟩ = some (.map (some nb)) ∧ wd.cell? ⟨ib + 1, 0, none⟩ = some (.pointer (some ⟨P 0, 0, none⟩))) := by subst hwd; exact hI0
              have hBd : Hid (Base w wd gb nb ib q0 q1 q2 q3 g0 g1 g2 g3 child s a b) := hB.out.quiet hfd
              have hSd : Hid (Su wd (ib + 1) (w.heap.size + 4) 3 P X M s a b) := hS.out.quiet hfd
              have hLd : Hid (wd.heap[w.heap.size + 4]? = some (logO (.slice none 0 0))) := by rw [hfd.block _ (blk_lt hL.out) (fun h => h)]; exact hL
              have hCd : Hid (Cl wd nb 4 C P (fun k => oN q0 q1 q2 q3 k % 3) (gN g0 g1 g2 g3)) := hC.out.fr hfd (off_no _ _) (fun h => h)
              clear hwd hfd hI0 hB hS hL hC
              refine takeI (i := 0) (v := .pointer (some ⟨gb, 0, none⟩)) rfl (by kernel_rfl) (by kernel_rfl) (by kernel_rfl) (by kernel_rfl) (fun _ _ _ h => h) hI.out ⟨by rfl, fun w' h => by go_simp⟩ ?_
              refine takeI (i := 1) (v := .pointer (some ⟨gb, 0, none⟩)) rfl (by kernel_rfl) (by kernel_rfl) (by kernel_rfl) (by kernel_rfl) (fun _ _ _ h => h) hI.out ⟨by rfl, fun w' h => by go_simp⟩ ?_
              refine takeI (i := 2) (v := .pointer (some ⟨gb, 11, none⟩)) rfl (by kernel_rfl) (by kernel_rfl) (by kernel_rfl) (by kernel_rfl) (fun _ _ _ h => h) hI.out ⟨by rfl, fun w' h => by go_simp⟩ ?_
              refine takeI (i := 3) (v := .map (some nb)) rfl (by kernel_rfl) (by kernel_rfl) (by kernel_rfl) (by kernel_rfl) (fun _ _ _ h => h) hI.out ⟨by rfl, fun w' h => by have c0 := h.1; go_simp⟩ ?_
              refine takeI (i := 4) (v := .pointer (some ⟨ib + 1, 0, none⟩)) rfl (by kernel_rfl) (by kernel_rfl) (by kernel_rfl) (by kernel_rfl) (fun _ _ _ h => h) hI.out ⟨by rfl, fun w' h => by go_simp⟩ ?_
              refine takeI (i := 5) (v := .pointer (some ⟨P 0, 0, none⟩)) rfl (by kernel_rfl) (by kernel_rfl) (by kernel_rfl) (by kernel_rfl) (fun _ _ _ h => h) hI.out ⟨by rfl, fun w' h => by have c0 := h.2; go_simp⟩ ?_
              refine takeI (i := 6) (v := .agg #[.pointer (some ⟨P 0, 0, none⟩), .string ⟨#[]⟩, .map none, .bool false, .bool false, .bool false, .int .u64 0, .bool false, .int .u64 0, .int .u64 0, .int .u64 0, .bool false, .bool false, .int .i64 0, .map none, .bool false, .int .u64 0, .int .u64 0, .int .u64 0, .pointer none, .map none, .bool false, .bool false, .int .u64 0]) rfl (by kernel_rfl) (by kernel_rfl) (by kernel_rfl) (by kernel_rfl) (fun _ _ _ h => h) hI.out ⟨by rfl, fun w' h => by go_simp⟩ ?_
              refine oneI (i := 7) rfl (by kernel_rfl) (fun K hK => ?_)
              go_simp
              have hIa : (wd.alloc (claimO (P 0) false)).cell? ⟨gb, 11, none⟩ = some (.map (some nb)) ∧ (wd.alloc (claimO (P 0) false)).cell? ⟨ib + 1, 0, none⟩ = some (.pointer (some ⟨P 0, 0, none⟩)) := ⟨Lib.cell?_alloc_some _ hI.out.1, Lib.cell?_alloc_some _ hI.out.2⟩
              refine hK _ _ (fun _ => hIa) ?_
              clear hK K
              have hbl : Below wd.heap.size wd (wd.alloc (claimO (P 0) false)) := (Below.refl _ wd).alloc (Nat.le_refl _) _
              obtain ⟨w5, hrun, hsm5, hg5⟩ := upd_run (hCd.out.sm.block (w' := (wd.alloc (claimO (P 0) false))) (hbl.block _ hCd.out.sm.lt)) (x := ⟨#[101]⟩) (.pointer (some ⟨wd.heap.size, 0, none⟩)) (claimL_ne (by omega : 4 < 6) C)
              simp only [claimO] at hrun
              have hmap : ∃ es cl, (wd.alloc (claimO (P 0) false)).heap[nb]? = some (.map es cl) := by
                obtain ⟨es, cl, h1, _⟩ := hCd.out.sm
                exact ⟨es, cl, blk_alloc h1⟩
              obtain ⟨es5, cl5, hmap⟩ := hmap
              have hf5 : Fr (wd.alloc (claimO (P 0) false)).heap.size (fun k => k = nb) (wd.alloc (claimO (P 0) false)) w5 := (Fr.refl _ (fun k => k = nb) _).grown hg5 (Nat.le_refl _) (fun k hk => .inr (Option.some.inj hk).symm)
              have HB5 : Hid (Base w w5 gb nb ib q0 q1 q2 q3 g0 g1 g2 g3 child s a b) := (hBd.out.below hbl).fr hf5 (off_map hmap _) (fun k e => by rw [e]; exact hnb)
              have HS5 : Hid (Su w5 (ib + 1) (w.heap.size + 4) 3 P X M s a b) := (hSd.out.quiet (Fr.of_below hbl)).fr hf5 (off_map hmap _) (fun k hk e => um_sm_ne (hSd.out.um k hk) hCd.out.sm e)
              have HL5 : Hid (w5.heap[w.heap.size + 4]? = some (logO (.slice none 0 0))) := off_blk hf5 (off_map hmap [33]) (blk_alloc hLd.out) (by decide)
              have HC5 : Hid (Cl w5 nb (4 + 1) (fun k => if k = 4 then wd.heap.size else C k) P (fun k => oN q0 q1 q2 q3 k % 3) (gN g0 g1 g2 g3)) := hCd.out.more hsm5 hg5
              have hcn : ∀ {k j : Nat} {v : Value}, (wd.alloc (claimO (P 0) false)).cell? ⟨k, j, none⟩ = some v → k ≠ nb := fun {k j v} h e => by
                subst e
                simp [World.cell?, hmap] at h
              have hI5 : w5.cell? ⟨gb, 11, none⟩ = some (.map (some nb)) ∧ w5.cell? ⟨ib + 1, 0, none⟩ = some (.pointer (some ⟨P 0, 0, none⟩)) := ⟨hg5.cell hIa.1 (fun e => hcn hIa.1 (Option.some.inj e)), hg5.cell hIa.2 (fun e => hcn hIa.2 (Option.some.inj e))⟩
              clear hcn hf5 hmap hg5 hsm5 hbl hIa hI hBd hSd hLd hCd
              refine oneI (i := 8) rfl (by kernel_rfl) (fun K hK => ?_)
              go_simp
              refine hK _ _ (fun _ => hI5) ?_
              clear hK K hrun hI5
              refine doneI (by kernel_rfl) ?_ _
              go_wp2
              go_meet
              exact ⟨_, HB5, HS5, HL5, HC5⟩
            case rest =>
              clear hB hS hL hC C
              obtain ⟨C, hB, hS, hL, hC⟩ := hcut
              obtain ⟨w6, hw6⟩ : ∃ w6, w6 = wc := ⟨_, rfl⟩
              subst hw6
              obtain ⟨i9, hi9, hz90, hz91, hz92⟩ := info_parts info9
              have hszw := hB.out.low.size
              obtain ⟨w7, hmk, hown7, hg7⟩ := run_make_full (P := Yba.prog) w6 w6.heap.size 110 9 i9 (.string ⟨#[]⟩) 1 Yba.underlying110 hi9 hz90 hz91 .i64 .i64 n (by rw [hz92]; omega) (by unfold maxLen; omega) (Nat.le_refl _)
              have HD7 : Hid (w7.ownsRow w6.heap.size 9 1 (.slice (some ⟨w6.heap.size, 0, none⟩) n n) n (List.replicate n (.string ⟨#[]⟩))) := by
                have : (madeCells (Value.string ⟨#[]⟩).cells (n * 1)).toList = List.replicate n (.string ⟨#[]⟩) := by rw [Nat.mul_one]; exact toList_madeCells_one _ _
                rw [this] at hown7
                exact hown7
              have hbl7 : Below w6.heap.size w6 w7 := (Below.refl _ w6).grown hg7 (Nat.le_refl _) (fun k hk => by cases hk)
              have HB7 : Hid (Base w w7 gb nb ib q0 q1 q2 q3 g0 g1 g2 g3 child s a b) := hB.out.below hbl7
              have HS7 : Hid (Su w7 (ib + 1) (w.heap.size + 4) 3 P X M s a b) := hS.out.quiet (Fr.of_below hbl7)
              have HL7 : Hid (w7.heap[w.heap.size + 4]? = some (logO (.slice none 0 0))) := by rw [hbl7.block _ (blk_lt hL.out)]; exact hL
              have HC7 : Hid (Cl w7 nb 5 C P (fun k => oN q0 q1 q2 q3 k % 3) (gN g0 g1 g2 g3)) := hC.out.fr (Fr.of_below (x := fun _ => False) hbl7) (off_no _ _) (fun h => h)
              have hdl : w6.heap.size < w7.heap.size := by
                obtain ⟨g, cap, cur, e, _, hg, _⟩ := hown7.2.resolve_left (by simp)
                simp at e
                rw [e.1]; exact blk_lt hg
              generalize hdE : w6.heap.size = db at hmk HD7 hdl hszw
              clear hdE hbl7 hg7 hown7 hB hS hL hC
              obtain ⟨l, hlE⟩ : ∃ l, l = zs.map (fun z => nameAt (z % 6)) := ⟨_, rfl⟩
              have hll : l.length = n := by rw [hlE]; simpa using hzl
              have HLE : Hid (l = zs.map (fun z => nameAt (z % 6))) := hlE
              obtain ⟨r, hrE⟩ : ∃ r, r = (rF (fun k => oN q0 q1 q2 q3 k % 3) (gN g0 g1 g2 g3)) := ⟨_, rfl⟩
              have HRE : Hid (r = (rF (fun k => oN q0 q1 q2 q3 k % 3) (gN g0 g1 g2 g3))) := hrE
              have HDB : Hid (∃ c, w7.heap[db]? = some (.cells c 9 (0, 0))) := by
                obtain ⟨g, cap, cur, e, _, hg, _⟩ := HD7.out.2.resolve_left (by simp)
                simp at e
                rw [e.1]; exact ⟨cur, hg⟩
              have HBS : Hid (∀ wx, Fr w7.heap.size (fun k => k = db) w7 wx → Base w wx gb nb ib q0 q1 q2 q3 g0 g1 g2 g3 child s a b) := fun wx hf => by
                obtain ⟨c, hc⟩ := HDB.out
                exact HB7.out.fr hf (off_type hc (by decide)) (fun k e => by rw [e]; exact hszw)
              clear hlE hrE
              go_upto_block 6 with fail
              clear hmk
              go_cut [32, 33, 34, 35, 36, 37, 38, 39, 40] from 147 to 220 (fun s32 s33 s34 _ _ _ _ _ _ wx => ∃ T : List T3, Hid (So w7 wx db n l n s32 s33 s34 T (upsL r (child && !fp) l)) ∧ Hid (hopsT T = hopsL r l))
              case first => -- STAGE E
                go_wp2_with fail
                go_loopg [32, 33, 34, 35, 36, 37, 38, 39, 40, 147] n (fun gg s32 s33 s34 _ _ _ _ _ _ s147 wr => ∃ (k : Nat) (T : List T3), k ≤ n ∧ n - k ≤ gg ∧ s147 = .int .i64 k ∧ Hid (So w7 wr db n l k s32 s33 s34 T (upsL r (child && !fp) (l.take k))) ∧ Hid (hopsT T = hopsL r (l.take k)))
                case atStart => exact ⟨0, [], by omega, by omega, rfl, hid ⟨by rw [List.take_zero]; exact Sp.start _ _ _ _ _, World.ownsRow_nil _ _ _ _, by simpa using HD7.out, Fr.refl _ _ _, hdl⟩, hid (by simp [hopsT, hopsL])⟩
                case round =>
                  obtain ⟨k, T, hk, hgg, rfl, hSo, hT⟩ := hrel
                  by_cases hlt : k < n
                  · have hltz : (k : Int) < (n : Int) := by omega
                    obtain ⟨z, hkz⟩ : ∃ z, zs[k]? = some z := ⟨_, List.getElem?_eq_getElem (by omega)⟩
                    obtain ⟨hz255, g, off, rfl, hgl, hcz⟩ := HZ.out k z hkz
                    obtain ⟨k6, hk6⟩ : ∃ k6, k6 = z % 6 := ⟨_, rfl⟩
                    have hk6l : k6 < 6 := by omega
                    have HX : Hid (l[k]? = some (nameAt k6)) := by rw [HLE.out, hk6]; exact hid (by simp [hkz])
                    have hwr : IntKind.i64.wrap (z : Int) = (z : Int) := IntWalk.i64_in _ (by omega)
                    have hkm : (z : Int) % 6 = (k6 : Int) := by omega
                    have htm : (z : Int).tmod 6 = (k6 : Int) := by rw [Int.tmod_eq_emod_of_nonneg (by omega)]; exact hkm
                    have hk6z : (k6 : Int) < 6 := by omega
                    have hBr : Hid (Base w wr gb nb ib q0 q1 q2 q3 g0 g1 g2 g3 child s a b) := HBS.out wr hSo.out.fr
                    have c0 : wr.cell? ⟨g, off + k, none⟩ = some (.int .u8 z) := (hBr.out.low.cell (p := ⟨g, off + k, none⟩) hgl).trans hcz
                    have c1 : wr.cell? ⟨w.heap.size + 1 + 1, k6, none⟩ = some (.string (nameAt k6)) := (blk_cell (b := w.heap.size + 1 + 1) hBr.out.nam k6).trans (name_cell k6 hk6l)
                    obtain ⟨⟨dv, c2⟩, f2⟩ := hSo.out.dcell hlt
                    have hS1 : Hid (So w7 (wr.setCell ⟨db, k, none⟩ (.string (nameAt k6))) db n l (k + 1) u32 u33 u34 T (upsL r (child && !fp) (l.take k))) := hSo.out.store hll HX.out
                    clear hkz hcz hk6 hSo
                    go_upto_region 36 with fail
                    generalize hWE : wr.setCell ⟨db, k, none⟩ (.string (nameAt k6)) = W at hS1 ⊢
                    clear c0 c1 c2 f2 hWE hwr hkm htm hBr
                    have hBW : Hid (Base w W gb nb ib q0 q1 q2 q3 g0 g1 g2 g3 child s a b) := HBS.out W hS1.out.fr
                    go_cut [167] from 161 to 166 (fun s167 wx => W = wx ∧ s167 = .bool (decide (k6 < 4) && gN g0 g1 g2 g3 k6))
                    case first => -- STAGE E1
                      by_cases h4 : k6 < 4
                      · have h4z : (k6 : Int) < 4 := by omega
                        have c3 : W.cell? ⟨w.heap.size + 1, k6, none⟩ = some (.bool (gN g0 g1 g2 g3 k6)) := (blk_cell hBW.out.gra k6).trans (gra_cell g0 g1 g2 g3 k6 h4)
                        go_wp2
                        go_meet
                        exact ⟨rfl, by simp [h4]⟩
                      · have h4z : ¬ ((k6 : Int) < 4) := by omega
                        go_wp2
                        go_meet
                        exact ⟨rfl, by simp [h4]⟩
                    case rest =>
                      obtain ⟨hWW, rfl⟩ := hcut
                      subst hWW
                      by_cases hA : (decide (k6 < 4) && gN g0 g1 g2 g3 k6) = true
                      · rw [hA]
                        have h4 : k6 < 4 := by simp at hA; exact hA.1
                        have hgr : gN g0 g1 g2 g3 k6 = true := by simp at hA; exact hA.2
                        obtain ⟨k3, hk3⟩ : ∃ k3, k3 = oN q0 q1 q2 q3 k6 % 3 := ⟨_, rfl⟩
                        have HR : Hid (r (nameAt k6) = some k3) := by rw [HRE.out, hk3]; exact rF_yes _ _ h4 hgr
                        have ho := oN_le ho0 ho1 ho2 ho3 k6
                        have h4z : (k6 : Int) < 4 := by omega
                        have hwr : IntKind.i64.wrap ((oN q0 q1 q2 q3 k6 : Nat) : Int) = ((oN q0 q1 q2 q3 k6 : Nat) : Int) := IntWalk.i64_in _ (by omega)
                        have hkm : ((oN q0 q1 q2 q3 k6 : Nat) : Int) % 3 = (k3 : Int) := by omega
                        have htm : ((oN q0 q1 q2 q3 k6 : Nat) : Int).tmod 3 = (k3 : Int) := by rw [Int.tmod_eq_emod_of_nonneg (by omega)]; exact hkm
                        have c3 : W.cell? ⟨w.heap.size, k6, none⟩ = some (.int .u8 (oN q0 q1 q2 q3 k6)) := (blk_cell hBW.out.own k6).trans (own_cell q0 q1 q2 q3 k6 h4)
                        have hTl : T.length ≤ k := by
                          have h1 : (hopsT T).length ≤ (l.take k).length := by rw [hT.out]; exact hopsL_len _
                          simp [hopsT] at h1
                          omega
                        obtain ⟨ap, capp, hup⟩ := owns_shape hS1.out.hp
                        obtain ⟨an, capn, hun⟩ := owns_shape hS1.out.sp.own
                        subst hup hun
                        clear hk3 hA hgr
                        go_upto_block 8 with fail
                        clear c3 hwr hkm htm
                        go_cut [39, 40] from 173 to 185 (fun s39 _ wx => W = wx ∧ ∃ i : Int, s39 = .int .i64 i ∧ Hid (FoundI T k3 T.length i))
                        case first => -- STAGE E2
                          go_wp2_with fail
                          go_loopg [39, 40] T.length (fun gg s39 s40 wx => W = wx ∧ ∃ (q : Nat) (i : Int), q ≤ T.length ∧ T.length - q ≤ gg ∧ s40 = .int .i64 q ∧ s39 = .int .i64 i ∧ Hid (FoundI T k3 q i))
                          case atStart => exact ⟨rfl, 0, -1, by omega, by omega, rfl, rfl, FoundI.zero _ _⟩
                          case round =>
                            obtain ⟨hWW, q, i, hq, hgq, rfl, rfl, hFd⟩ := hrel
                            subst hWW
                            by_cases hql : q < T.length
                            · have hqz : (q : Int) < (T.length : Int) := by omega
                              obtain ⟨t, hqt⟩ : ∃ t, T[q]? = some t := ⟨_, List.getElem?_eq_getElem hql⟩
                              obtain ⟨gp, capp', ep, cp⟩ := hS1.out.pcell hqt
                              simp at ep
                              obtain ⟨rfl, rfl⟩ := ep
                              have HQT : Hid (T[q]? = some t) := hqt
                              clear hqt
                              by_cases hpk : t.1 = k3
                              · have hpz : (t.1 : Int) = (k3 : Int) := by omega
                                have HPK : Hid (t.1 = k3) := hpk
                                clear hpk
                                go_wp2
                                go_roundg (T.length - (q + 1))
                                case measure => omega
                                case rel => exact ⟨rfl, q + 1, q, by omega, Nat.le_refl _, rfl, rfl, FoundI.yes HQT.out HPK.out⟩
                              · have hpz : ¬ ((t.1 : Int) = (k3 : Int)) := by omega
                                have HPK : Hid (t.1 ≠ k3) := hpk
                                clear hpk
                                go_wp2
                                go_roundg (T.length - (q + 1))
                                case measure => omega
                                case rel => exact ⟨rfl, q + 1, i, by omega, Nat.le_refl _, rfl, rfl, FoundI.no hFd.out HQT.out HPK.out⟩
                            · have hqz : ¬ ((q : Int) < (T.length : Int)) := by omega
                              obtain rfl : q = T.length := by omega
                              go_wp2
                              go_meet
                              exact ⟨rfl, i, rfl, hFd⟩
                        case rest =>
                          obtain ⟨hWW, i, rfl, hFd⟩ := hcut
                          subst hWW
                          go_upto_if 187 with fail
                          go_cut [32, 33, 39] from 188 to 196 (fun s32 s33 s39 wx => ∃ (T' : List T3) (m : Nat) (t : T3), s39 = .int .i64 m ∧ Hid (So w7 wx db n l (k + 1) s32 s33 u34 T' (upsL r (child && !fp) (l.take k))) ∧ Hid (T'[m]? = some t) ∧ t.2.2.length ≤ k ∧ Hid (∀ v, hopsT (T'.set m (t.1, v, t.2.2 ++ [nameAt k6])) = addH (hopsT T) k3 (nameAt k6)))
                          case first => -- STAGE E3
                            rcases hFd.out with ⟨hno, rfl⟩ | ⟨m, t, hm, hmk, rfl⟩
                            · have HN : Hid (∀ t ∈ T, t.1 ≠ k3) := fun t ht => by
                                obtain ⟨j, hj⟩ := List.getElem?_of_mem ht
                                exact hno j t (List.getElem?_eq_some_iff.1 hj).1 hj
                              clear hno
                              obtain ⟨i3, hi3, hy0, hy1, hy2⟩ := info_parts info3
                              obtain ⟨i110, hi110, hx0, hx1, hx2⟩ := info_parts info110
                              have hsW := hS1.out.size
                              go_upto_region 47 with (at_builtin; refine wpList_append_own_at _ rfl (.tmp 190) (.tmp 192) 111 rfl w7.heap.size 3 i3 (.int .i64 0) 1 8 Yba.underlying111 hi3 hy0 hy1 hy2 rfl (by decide) _ _ _ rfl (hS1.out.alloc _).hp _ 1 1 [.int .i64 k3] rfl rfl ?c1 ?c2 ?c3 ?c4 ?c5 ?_)
                              case c1 => exact one_new (by simp)
                              case c2 => intro u hu; simp at hu; subst hu; rfl
                              case c3 => unfold maxLen; omega
                              case c4 => omega
                              case c5 => simp; omega
                              intro v1 w8 hown1 hgrow1 _ hat1
                              have hP1 : Hid (SoP w7 w8 db n l (k + 1) v1 (.slice an T.length capn) u34 T (upsL r (child && !fp) (l.take k)) k3) := (hS1.out.alloc _).peer hown1 hgrow1
                              have hs8 := hP1.out.fr.size
                              clear hown1 hgrow1 hat1
                              go_wp2_with (at_builtin; refine wpList_append_own_at _ rfl (.tmp 194) (.tmp 195) 112 rfl w7.heap.size 110 i110 (.slice none 0 0) 1 24 Yba.underlying112 hi110 hx0 hx1 hx2 rfl (by decide) _ _ _ rfl (hP1.out.alloc _).sp.own _ 1 1 [.slice none 0 0] rfl rfl ?c1 ?c2 ?c3 ?c4 ?c5 ?_)
                              case c1 => exact one_new (by simp)
                              case c2 => intro u hu; simp at hu; subst hu; rfl
                              case c3 => unfold maxLen; omega
                              case c4 => omega
                              case c5 => simp; omega
                              intro v2 w9 hown2 hgrow2 _ hat2
                              have hS3 : Hid (So w7 w9 db n l (k + 1) v1 v2 u34 (T ++ [(k3, .slice none 0 0, [])]) (upsL r (child && !fp) (l.take k))) := (hP1.out.alloc _).names hown2 hgrow2
                              clear hown2 hgrow2 hat2 hP1
                              go_wp2
                              go_meet
                              exact ⟨T ++ [(k3, .slice none 0 0, [])], T.length, (k3, .slice none 0 0, []), rfl, hS3, hid (by simp), by simp, hid (fun v => hopsT_new HN.out)⟩
                            · have HM : Hid (T[m]? = some t) := hm
                              have HK : Hid (t.1 = k3) := hmk
                              have hmz : ¬ ((m : Int) < 0) := by omega
                              clear hm hmk
                              go_wp2
                              go_meet
                              refine ⟨T, m, t, rfl, hS1, HM, ?_, hid (fun v => ?_)⟩
                              · have h1 : (t.1, t.2.2) ∈ hopsL r (l.take k) := by rw [← hT.out]; exact List.mem_map.2 ⟨t, List.mem_of_getElem? HM.out, rfl⟩
                                have := ((hopsL_in (r := r) (l.take k)).1 _ h1).2.1
                                simp at this
                                omega
                              · rw [← HK.out]
                                exact hopsT_old (by rw [hT.out]; exact (hopsL_in (r := r) (l.take k)).2) HM.out
                          case rest =>
                            obtain ⟨T', m, t, rfl, hS2, hTm, htl, hH⟩ := hcut
                            obtain ⟨W2, hW2⟩ : ∃ W2, W2 = wc := ⟨_, rfl⟩
                            subst hW2
                            clear hS1 hFd hBW
                            obtain ⟨g6, capg, hgf, hgB, hgl6, hcapg, e1, e2, _, _⟩ := hS2.out.sp.valAt (fun _ => rfl) hTm.out
                            subst hgf
                            have e1 : W2.cell? ⟨g6, m, none⟩ = some t.2.1 := by simpa using e1
                            have hBW2 : Hid (Base w W2 gb nb ib q0 q1 q2 q3 g0 g1 g2 g3 child s a b) := HBS.out W2 hS2.out.fr
                            have e3 : W2.cell? ⟨w.heap.size + 1 + 1, k6, none⟩ = some (.string (nameAt k6)) := (blk_cell (b := w.heap.size + 1 + 1) hBW2.out.nam k6).trans (name_cell k6 hk6l)
                            have hmT : (m : Int) < (T'.length : Int) := by have := (List.getElem?_eq_some_iff.1 hTm.out).1; omega
                            obtain ⟨i9, hi9, hz90, hz91, hz92⟩ := info_parts info9
                            go_wp2_with fail
                            refine wp_region_any (by kernel_rfl) (anyI.any (L := 12) (I := fun w' => w'.cell? ⟨g6, m, none⟩ = some t.2.1 ∧ w'.cell? ⟨w.heap.size + 1 + 1, k6, none⟩ = some (.string (nameAt k6))) ?_)
                            generalize hwd : ({ heap := W2.heap, tape := W2.tape, drawn := W2.drawn + 1, os := W2.os, output := W2.output } : World) = wd
                            have hSd : Hid (So w7 wd db n l (k + 1) u32 (.slice (some ⟨g6, 0, none⟩) T'.length capg) u34 T' (upsL r (child && !fp) (l.take k))) := hS2.out.below (by subst hwd; exact ⟨rfl, rfl, rfl, Nat.le_refl _, fun _ _ => rfl⟩)
                            have hI : Hid (wd.cell? ⟨g6, m, none⟩ = some t.2.1 ∧ wd.cell? ⟨w.heap.size + 1 + 1, k6, none⟩ = some (.string (nameAt k6))) := by subst hwd; exact ⟨e1, e3⟩
                            have hszd : w7.heap.size ≤ wd.heap.size := hSd.out.size
                            have hnl : w.heap.size + 1 + 1 < w7.heap.size := blk_lt HB7.out.nam
                            clear hwd e1 e2 e3 hS2 hBW2
                            refine takeI (i := 0) (v := .slice (some ⟨g6, 0, none⟩) T'.length capg) rfl (by kernel_rfl) (by kernel_rfl) (by kernel_rfl) (by kernel_rfl) (fun _ _ _ h => h) hI.out ⟨by rfl, fun w' h => by go_simp⟩ ?_
                            refine takeI (i := 1) (v := .int .i64 m) rfl (by kernel_rfl) (by kernel_rfl) (by kernel_rfl) (by kernel_rfl) (fun _ _ _ h => h) hI.out ⟨by rfl, fun w' h => by go_simp⟩ ?_
                            refine takeI (i := 2) (v := .slice (some ⟨g6, 0, none⟩) T'.length capg) rfl (by kernel_rfl) (by kernel_rfl) (by kernel_rfl) (by kernel_rfl) (fun _ _ _ h => h) hI.out ⟨by rfl, fun w' h => by go_simp⟩ ?_
                            refine takeI (i := 3) (v := .int .i64 m) rfl (by kernel_rfl) (by kernel_rfl) (by kernel_rfl) (by kernel_rfl) (fun _ _ _ h => h) hI.out ⟨by rfl, fun w' h => by go_simp⟩ ?_
                            refine takeI (i := 4) (v := .pointer (some ⟨g6, m, none⟩)) rfl (by kernel_rfl) (by kernel_rfl) (by kernel_rfl) (by kernel_rfl) (fun _ _ _ h => h) hI.out ⟨by rfl, fun w' h => by go_simp⟩ ?_
                            refine takeI (i := 5) (v := t.2.1) rfl (by kernel_rfl) (by kernel_rfl) (by kernel_rfl) (by kernel_rfl) (fun _ _ _ h => h) hI.out ⟨by rfl, fun w' h => by have c0 := h.1; go_simp⟩ ?_
                            refine takeI (i := 6) (v := .int .i64 k6) rfl (by kernel_rfl) (by kernel_rfl) (by kernel_rfl) (by kernel_rfl) (fun _ _ _ h => h) hI.out ⟨by rfl, fun w' h => by go_simp⟩ ?_
                            refine takeI (i := 7) (v := .pointer (some ⟨w.heap.size + 1 + 1, k6, none⟩)) rfl (by kernel_rfl) (by kernel_rfl) (by kernel_rfl) (by kernel_rfl) (fun _ _ _ h => h) hI.out ⟨by rfl, fun w' h => by go_simp⟩ ?_
                            refine takeI (i := 8) (v := .string (nameAt k6)) rfl (by kernel_rfl) (by kernel_rfl) (by kernel_rfl) (by kernel_rfl) (fun _ _ _ h => h) hI.out ⟨by rfl, fun w' h => by have c0 := h.2; go_simp⟩ ?_
                            refine oneI (i := 9) rfl (by kernel_rfl) (fun K hK => ?_)
                            go_simp
                            refine hK _ _ (fun _ => ⟨Lib.cell?_alloc_some _ hI.out.1, Lib.cell?_alloc_some _ hI.out.2⟩) ?_
                            clear hK K
                            refine oneI (i := 10) rfl (by kernel_rfl) (fun K hK => ?_)
                            refine step_append_own rfl (.tmp 202) (.tmp 206) 110 rfl w7.heap.size 9 i9 (.string ⟨#[]⟩) 1 16 Yba.underlying110 hi9 hz90 hz91 hz92 rfl (by decide) t.2.1 t.2.2.length (t.2.2.map Value.string) (by go_simp) ((hSd.out.alloc _).sp.ownN hTm.out) ⟨wd.heap.size, 0, none⟩ 1 1 [.string (nameAt k6)] (by go_simp) rfl (one_new rfl) (by intro u hu; simp at hu; subst hu; rfl) (by unfold maxLen; omega) (by omega) (by simp; omega) ?_
                            intro v4 w10 hown4 hgr4 hat4
                            have hrow := (hSd.out.alloc (.cells #[.string (nameAt k6)] 9)).sp.keepsRow (w' := w10) (by decide) (k := m + 2) (f := (t.2.1, t.2.2)) (by simp [famT, hTm.out]) hgr4
                            have f1 : w10.cell? ⟨g6, m, none⟩ = some t.2.1 := by
                              rw [hrow.cellAt m (by omega)]
                              have := flat_val (pre := noP) (q := 0) (fun _ => rfl) hTm.out
                              simpa using this
                            have f2 : w10.frozen? ⟨g6, m, none⟩ = false := hrow.frozenAt _
                            have hlN := (hSd.out.sp.ltN hTm.out)
                            have f3 : w10.cell? ⟨w.heap.size + 1 + 1, k6, none⟩ = some (.string (nameAt k6)) := hgr4.cell (Lib.cell?_alloc_some _ hI.out.2) (fun e => by have := hlN _ e.symm; simp at this; omega)
                            obtain ⟨av4, cv4, hv4⟩ := owns_shape hown4
                            subst hv4
                            have hS4 : Hid (So w7 (w10.setCell ⟨g6, m, none⟩ (.slice av4 (t.2.2.length + 1) cv4)) db n l (k + 1) u32 (.slice (some ⟨g6, 0, none⟩) T'.length capg) u34 (T'.set m (t.1, .slice av4 (t.2.2.length + 1) cv4, t.2.2 ++ [nameAt k6])) (upsL r (child && !fp) (l.take k))) := (hSd.out.alloc _).name hTm.out hown4 hgr4 (by simpa using hat4) rfl
                            refine hK _ _ (fun _ => ⟨f1, f3⟩) ?_
                            clear hK K hown4 hgr4 hat4 hrow hlN hI hSd
                            refine oneI (i := 11) rfl (by kernel_rfl) (fun K hK => ?_)
                            go_simp
                            refine hK _ _ (fun _ => ⟨f1, f3⟩) ?_
                            clear hK K
                            refine oneI (i := 12) rfl (by kernel_rfl) (fun K hK => ?_)
                            go_simp
                            refine hK _ _ (fun h => absurd rfl h) ?_
                            clear hK K
                            refine doneI (by kernel_rfl) ?_ _
                            go_wp2
                            go_roundg (n - (k + 1))
                            case measure => omega
                            case rel => exact ⟨k + 1, _, by omega, Nat.le_refl _, rfl, by rw [ups_some (child && !fp) HX.out HR.out]; exact hS4, hid (by rw [hops_some HX.out HR.out, ← hT.out]; exact hH.out _)⟩
                      · have hA' : (decide (k6 < 4) && gN g0 g1 g2 g3 k6) = false := by simpa using hA
                        rw [hA']
                        have HR : Hid (r (nameAt k6) = none) := by
                          rw [HRE.out]
                          refine rF_no _ _ hk6l (fun h4 => ?_)
                          simp [h4] at hA'
                          exact hA'
                        have hul : (upsL r (child && !fp) (l.take k)).length ≤ k := by
                          have := ups_len (r := r) (child && !fp) (l.take k)
                          simp at this
                          omega
                        clear hA hA'
                        have hno : (child && !fp) = false → (upsL r (child && !fp) (l.take (k + 1))) = (upsL r (child && !fp) (l.take k)) := fun h => by rw [h, ups_false, ups_false]
                        by_cases hub : (child && !fp) = true
                        · obtain ⟨hch, hfp⟩ : child = true ∧ fp = false := by simpa using hub
                          subst hch hfp
                          obtain ⟨i9, hi9, hz90, hz91, hz92⟩ := info_parts info9
                          have e3 : W.cell? ⟨w.heap.size + 1 + 1, k6, none⟩ = some (.string (nameAt k6)) := (blk_cell (b := w.heap.size + 1 + 1) hBW.out.nam k6).trans (name_cell k6 hk6l)
                          have hsW := hS1.out.size
                          have hS1 : Hid (So w7 W db n l (k + 1) u32 u33 u34 T (upsL r true (l.take k))) := hS1
                          have hul : (upsL r true (l.take k)).length ≤ k := hul
                          clear hno hub
                          go_wp2_with (at_builtin; refine wpList_append_own_at _ rfl (.tmp 214) (.tmp 218) 110 rfl w7.heap.size 9 i9 (.string ⟨#[]⟩) 1 16 Yba.underlying110 hi9 hz90 hz91 hz92 rfl (by decide) _ _ _ rfl (hS1.out.alloc _).sp.ownU _ 1 1 [.string (nameAt k6)] rfl rfl ?c1 ?c2 ?c3 ?c4 ?c5 ?_)
                          case c1 => exact one_new (by simp)
                          case c2 => intro u hu; simp at hu; subst hu; rfl
                          case c3 => unfold maxLen; omega
                          case c4 => omega
                          case c5 => simp; omega
                          intro v1 w8 hown1 hgrow1 _ hat1
                          have hS3 : Hid (So w7 w8 db n l (k + 1) u32 u33 v1 T (upsL r true (l.take k) ++ [nameAt k6])) := (hS1.out.alloc _).up hown1 hgrow1 (by simpa using hat1)
                          clear hown1 hgrow1 hat1 e3
                          go_wp2
                          go_roundg (n - (k + 1))
                          case measure => omega
                          case rel => exact ⟨k + 1, T, by omega, Nat.le_refl _, rfl, hid (by show So w7 w8 db n l (k + 1) u32 u33 v1 T (upsL r true (l.take (k + 1))); rw [ups_none HX.out HR.out]; exact hS3.out), hid (by rw [hops_none HX.out HR.out]; exact hT.out)⟩
                        · have hub' : (child && !fp) = false := by simpa using hub
                          have HS3 : Hid (So w7 W db n l (k + 1) u32 u33 u34 T (upsL r (child && !fp) (l.take (k + 1)))) := by rw [hno hub']; exact hS1
                          have HT3 : Hid (hopsT T = hopsL r (l.take (k + 1))) := by rw [hops_none HX.out HR.out]; exact hT
                          clear hno hub
                          cases child with
                          | false =>
                            go_wp2
                            go_roundg (n - (k + 1))
                            case measure => omega
                            case rel => exact ⟨k + 1, T, by omega, Nat.le_refl _, rfl, HS3, HT3⟩
                          | true =>
                            have hfp : fp = true := by simpa using hub'
                            subst hfp
                            go_wp2
                            go_roundg (n - (k + 1))
                            case measure => omega
                            case rel => exact ⟨k + 1, T, by omega, Nat.le_refl _, rfl, HS3, HT3⟩
                  · have hge : ¬ ((k : Int) < (n : Int)) := by omega
                    obtain rfl : k = n := by omega
                    go_wp2
                    go_meet
                    have e : l.take k = l := List.take_of_length_le (by omega)
                    have h1 := hSo.out
                    have h2 := hT.out
                    rw [e] at h1 h2
                    exact ⟨T, h1, h2⟩
              case rest =>
                obtain ⟨T, hSo, hT⟩ := hcut
                obtain ⟨w8, hw8⟩ : ∃ w8, w8 = wc := ⟨_, rfl⟩
                subst hw8
                have hB8 : Hid (Base w w8 gb nb ib q0 q1 q2 q3 g0 g1 g2 g3 child s a b) := HBS.out w8 hSo.out.fr
                have hS8 : Hid (Su w8 (ib + 1) (w.heap.size + 4) 3 P X M s a b) := by
                  obtain ⟨c, hc⟩ := HDB.out
                  exact HS7.out.fr hSo.out.fr (off_type hc (by decide)) (fun k hk e => um_not_cells (HS7.out.um k hk) (e ▸ hc))
                have hL8 : Hid (w8.heap[w.heap.size + 4]? = some (logO (.slice none 0 0))) := by
                  obtain ⟨c, hc⟩ := HDB.out
                  exact off_blk hSo.out.fr (off_type hc (Ts := [33]) (by decide)) HL7.out (by decide)
                have hC8 : Hid (Cl w8 nb 5 C P (fun k => oN q0 q1 q2 q3 k % 3) (gN g0 g1 g2 g3)) := by
                  obtain ⟨c, hc⟩ := HDB.out
                  refine HC7.out.fr hSo.out.fr (off_type hc (by decide)) (fun e => ?_)
                  obtain ⟨es, cl, h1, _⟩ := HC7.out.sm
                  have e : nb = db := e
                  rw [e, hc] at h1
                  cases h1
                clear HB7 HS7 HL7 HC7 HD7 HBS
                have hbl9 : Below w8.heap.size w8 (w8.alloc (onwO (.slice none 0 0))) := (Below.refl _ w8).alloc (Nat.le_refl _) _
                have hB9 : Hid (Base w (w8.alloc (onwO (.slice none 0 0))) gb nb ib q0 q1 q2 q3 g0 g1 g2 g3 child s a b) := hB8.out.below hbl9
                have hS9 : Hid (Su (w8.alloc (onwO (.slice none 0 0))) (ib + 1) (w.heap.size + 4) 3 P X M s a b) := hS8.out.quiet (Fr.of_below hbl9)
                have hL9 : Hid ((w8.alloc (onwO (.slice none 0 0))).heap[w.heap.size + 4]? = some (logO (.slice none 0 0))) := blk_alloc hL8.out
                have hC9 : Hid (Cl (w8.alloc (onwO (.slice none 0 0))) nb 5 C P (fun k => oN q0 q1 q2 q3 k % 3) (gN g0 g1 g2 g3)) := hC8.out.fr (Fr.of_below (x := fun _ => False) hbl9) (off_no _ _) (fun h => h)
                have hSo9 : Hid (So w7 (w8.alloc (onwO (.slice none 0 0))) db n l n u32 u33 u34 T (upsL r (child && !fp) l)) := hSo.out.below hbl9
                have ho9 : Hid ((w8.alloc (onwO (.slice none 0 0))).heap[w8.heap.size]? = some (onwO (.slice none 0 0))) := new_at rfl
                have hlN : Hid (∀ x ∈ l, ∃ i, i < 6 ∧ x = nameAt i) := fun x hx => by
                  rw [HLE.out] at hx
                  obtain ⟨z, _, rfl⟩ := List.mem_map.1 hx
                  exact ⟨z % 6, Nat.mod_lt _ (by decide), rfl⟩
                have hRD := rd_any (.pointer (some ⟨gb, 0, none⟩)) (some ⟨db, 0, none⟩) n l fp (child && !fp) r P X M (w.heap.size + 4) w8.heap.size s a b ab st six (w8.alloc (onwO (.slice none 0 0))) (by omega) hs ha0 ha hb0 hb h0 h1
                  (fun x hx => by obtain ⟨i, hi, rfl⟩ := hlN.out x hx; exact nameAt_size i)
                  (fun j x hx => by
                    have hjl : j < l.length := (List.getElem?_eq_some_iff.1 hx).1
                    have hd := hSo9.out.dlt
                    refine ⟨db, rfl, by have := hSo9.out.size; omega, ?_⟩
                    rw [hSo9.out.dst.cellAt j (by omega), List.take_of_length_le (by omega), List.getElem?_append_left (by simpa using hjl), List.getElem?_map, hx]
                    rfl)
                  (fun x hx hn wx hw => by
                    obtain ⟨i, hi, rfl⟩ := hlN.out x hx
                    refine (route_at (hB9.out.below hw) (hC9.out.fr (Fr.of_below (x := fun _ => False) hw) (off_no _ _) (fun h => h)) rfl fp hi).mono ?_
                    rintro e w' ⟨rfl, rfl⟩
                    refine ⟨?_, rfl⟩
                    rw [if_neg]
                    rintro ⟨h4, hg⟩
                    rw [HRE.out, rF_yes _ _ h4 hg] at hn
                    cases hn)
                  (fun x hx o ho => by
                    obtain ⟨i, hi, rfl⟩ := hlN.out x hx
                    have hig : i < 4 ∧ gN g0 g1 g2 g3 i = true := by
                      rcases Classical.em (i < 4 ∧ gN g0 g1 g2 g3 i = true) with h | h
                      · exact h
                      · rw [HRE.out, rF_no _ _ hi (fun h4 => by
                          cases hg : gN g0 g1 g2 g3 i
                          · rfl
                          · exact absurd ⟨h4, hg⟩ h)] at ho
                        cases ho
                    rw [HRE.out, rF_yes _ _ hig.1 hig.2] at ho
                    have ho := Option.some.inj ho
                    subst ho
                    refine ⟨Nat.mod_lt _ (by decide), fun wx hw => ?_⟩
                    refine (route_at (hB9.out.below hw) (hC9.out.fr (Fr.of_below (x := fun _ => False) hw) (off_no _ _) (fun h => h)) rfl fp hi).mono ?_
                    rintro e w' ⟨rfl, rfl⟩
                    refine ⟨?_, rfl⟩
                    rw [if_pos hig])
                  hS9.out.pinj hS9.out.minj hS9.out.pe hL9.out ho9.out (fun i hi => ⟨six, hS9.out.um i hi, six_nodup, fun y => by simp⟩)
                rw [hll] at hRD
                obtain ⟨nT, HNT⟩ : ∃ nT, Hid (nT = T.length) := ⟨_, rfl⟩
                obtain ⟨nU, HNU⟩ : ∃ nU, Hid (nU = (upsL r (child && !fp) l).length) := ⟨_, rfl⟩
                obtain ⟨ap, capp, hup⟩ := owns_shape hSo9.out.hp
                obtain ⟨an, capn, hun⟩ := owns_shape hSo9.out.sp.own
                obtain ⟨au, capu, huu⟩ := owns_shape hSo9.out.sp.ownU
                rw [← HNT.out] at hup hun
                rw [← HNU.out] at huu
                subst hup hun huu
                have c9 := cellLit hB9.out.idb 0
                have c9a := cellLit hB9.out.idb 1
                have c9b := cellLit hB9.out.idb 2
                simp at c9 c9a c9b
                simp only [onwO] at c9 c9a c9b
                go_wp2_with fail
                refine hRD.mono ?_
                rintro e w10 ⟨t, lv, uv, G, rfl, ht, hLG, hGH, hVs, hon, hUp, hFr⟩
                have hpb := blk_lt hS9.out.blk
                have hoff : ∀ Ts, 33 ∉ Ts → 116 ∉ Ts → Off (w8.alloc (onwO (.slice none 0 0))) (fun k => k = w.heap.size + 4 ∨ k = w8.heap.size ∨ ∃ i, i < 3 ∧ k = M i) Ts := fun Ts h33 h116 k c T hk hc => by
                  rcases hk with rfl | rfl | ⟨i, hi, rfl⟩
                  · rw [hL9.out] at hc; simp [logO] at hc; rw [← hc.2]; exact h33
                  · rw [ho9.out] at hc; simp [onwO] at hc; rw [← hc.2]; exact h116
                  · exact (um_not_cells (hS9.out.um i hi) hc).elim
                have hszw9 : w.heap.size ≤ (w8.alloc (onwO (.slice none 0 0))).heap.size := hB9.out.low.size
                have HB : Hid (Base w w10 gb nb ib q0 q1 q2 q3 g0 g1 g2 g3 child s a b) := hB9.out.fr hFr (hoff _ (by decide) (by decide)) (fun k hk => by
                  rcases hk with rfl | rfl | ⟨i, hi, rfl⟩
                  · omega
                  · exact hB8.out.low.size
                  · have := hS9.out.lo i hi; omega)
                have HPB : Hid (w10.heap[ib + 1]? = some (.cells (parr P 3) 43 (0, 0))) := off_blk hFr (hoff [43] (by decide) (by decide)) hS9.out.blk (by decide)
                have HPK : Hid (∀ i, i < 3 → ∃ c, w10.heap[P i]? = some (.cells c 71 (0, 0)) ∧ c[18]? = some (.map (some (M i)))) := fun i hi => by
                  obtain ⟨c, hc, _, _, h18⟩ := (hS9.out.pe i hi).link
                  exact ⟨c, off_blk hFr (hoff [71] (by decide) (by decide)) hc (by decide), h18⟩
                have HHP : Hid (w10.ownsRow w7.heap.size 3 1 (.slice ap nT capp) nT (T.map fun t => .int .i64 (t.1 : Int))) := by
                  have := owns_off hSo9.out.hp hFr (hoff [3] (by decide) (by decide))
                  rw [← HNT.out] at this
                  exact this
                have HHN : Hid (w10.ownsRow w7.heap.size 110 1 (.slice an nT capn) nT (flatT noP T)) := by
                  have := owns_off hSo9.out.sp.own hFr (hoff [110] (by decide) (by decide))
                  rw [← HNT.out] at this
                  exact this
                have HNM : Hid (∀ (j : Nat) (t : T3), T[j]? = some t → w10.ownsRow w7.heap.size 9 1 t.2.1 t.2.2.length (t.2.2.map Value.string)) := fun j t hj => owns_off (hSo9.out.sp.ownN hj) hFr (hoff [9] (by decide) (by decide))
                have HUR : Hid (w10.ownsRow w7.heap.size 9 1 (.slice au nU capu) nU ((upsL r (child && !fp) l).map Value.string)) := by
                  have := owns_off hSo9.out.sp.ownU hFr (hoff [9] (by decide) (by decide))
                  rw [← HNU.out] at this
                  exact this
                have HLG : Hid (LogS w10 (w.heap.size + 4) (w8.alloc (onwO (.slice none 0 0))).heap.size lv G) := hLG
                have HGH : Hid (G.map (fun g => (g.1, g.2.2)) = (hopsL r l).map (fun h => (h.1, decZ s a b h.2 ab st))) := hGH
                have HVS : Hid (Vs w10 M s a b six (struck (hopsL r l))) := hVs
                have HON : Hid (w10.heap[w8.heap.size]? = some (onwO uv)) := hon
                have HUP : Hid (UpOut w10 (w8.alloc (onwO (.slice none 0 0))).heap.size uv (upsL r (child && !fp) l) (decZ s a b (upsL r (child && !fp) l) ab st)) := hUp
                have HT : Hid (hopsT T = hopsL r l) := hT
                have HLZ : Hid (∀ x ∈ l, x.size ≤ 10) := fun x hx => by obtain ⟨i, hi, rfl⟩ := hlN.out x hx; exact nameAt_size i
                have HGL : Hid (G.length = nT) := by
                  have e1 := congrArg List.length hGH
                  have e2 := congrArg List.length hT.out
                  simp [hopsT] at e1 e2
                  exact hid (by rw [HNT.out]; omega)
                have htn : t = decide (0 < nU) := by
                  rw [HNU.out]
                  by_cases h : 0 < (upsL r (child && !fp) l).length
                  · rw [ht.2 h, decide_eq_true h]
                  · rw [decide_eq_false h]
                    cases t with
                    | false => rfl
                    | true => exact absurd (ht.1 rfl) h
                subst htn
                have hnT : nT ≤ 1024 := by
                  rw [HNT.out]
                  have e2 := congrArg List.length hT.out
                  have e3 := hopsL_len (r := r) l
                  simp [hopsT] at e2
                  omega
                have hnU : nU ≤ 1024 := by
                  rw [HNU.out]
                  have := ups_len (r := r) (child && !fp) l
                  omega
                obtain ⟨al, capl, hlv⟩ := owns_shape HLG.out.own
                rw [HGL.out] at hlv
                subst hlv
                have cl : w10.cell? ⟨w.heap.size + 1 + 1 + 1 + 1, 0, none⟩ = some (.slice al nT capl) := (blk_cell (b := w.heap.size + 1 + 1 + 1 + 1) HLG.out.blk 0).trans rfl
                have hob : w8.heap.size < w10.heap.size := blk_lt HON.out
                generalize hobE : w8.heap.size = ob at HON hob ⊢
                generalize hB9E : (w8.alloc (onwO (.slice none 0 0))).heap.size = B9 at HLG HUP
                clear hRD hpb hoff hLG hGH hVs hon hUp ht hFr hB9 hS9 hL9 hC9 hSo9 ho9 hB8 hS8 hL8 hC8 hSo hbl9 c9 c9a c9b hT hobE hB9E hlN HRE HLE HDB hszw9
                go_upto_block 10 with fail
                clear cl
                rename_i K9 hK9
                exact sent_any ha0 ha hb0 hb h0 h1 hn hs hll HNT HNU HB HPB HPK HHP HHN HNM HVS HT HLZ hnT hnU HUR HGH HGL HON hob HLG HUP K9 hK9
    · have hsz : (1024 : Int) < (s.size : Int) := by omega
      have hnz : ¬ ((1024 : Int) < (n : Int)) := by omega
      go_enter Yba.func4, Yba.ntmps4
      go_wp2
      go_ret
      exact ⟨rfl, ((Below.refl _ w).alloc (Nat.le_refl _) _).alloc (by simp) _⟩
  · have hnz : (1024 : Int) < (n : Int) := by omega
    go_enter Yba.func4, Yba.ntmps4
    go_wp2
    go_ret
    exact ⟨rfl, ((Below.refl _ w).alloc (Nat.le_refl _) _).alloc (by simp) _⟩
end Go.Proofs.Ybulkakzq.LawB
