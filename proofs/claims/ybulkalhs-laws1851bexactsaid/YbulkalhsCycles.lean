/-
  slices.Index at []int, and cycles.
-/
import Derived.Test.YbulkalhsGraph
import Derived.Test.YbulkalhsMem
import Derived.WalkKit
import Derived.OwnWalk
import Derived.Deep.DeepCutAuto
namespace Go.Proofs.Ybulkalhs.Cycles
open Go.RowKit Blocks Mem Graph
set_option linter.unusedVariables false
set_option maxRecDepth 100000

theorem info3 : (Yba.prog.info? 3).map (fun i => (i.zero, i.size, i.bytes)) = some (some (.int .i64 0), 1, 8) := by kernel_rfl
theorem info23 : (Yba.prog.info? 23).map (fun i => (i.zero, i.size, i.bytes)) = some (some (.slice none 0 0), 1, 24) := by kernel_rfl
theorem info30 : (Yba.prog.info? 30).map (fun i => (i.zero, i.size, i.bytes)) = some (some (.int .i8 0), 1, 1) := by kernel_rfl

theorem Hid.mk' {p : Prop} (h : p) : Hid p := h

/-- The graph that the numbers tell. -/
def nx (zs : List Int) (i : Nat) : Option Nat := match zs[i]? with
  | some (.ofNat k) => some k
  | _ => none

theorem nx_some {zs : List Int} {i : Nat} {z : Int} (h : zs[i]? = some z) (hz : 0 ≤ z) : nx zs i = some z.toNat := by
  unfold nx; rw [h]
  cases z with
  | ofNat k => rfl
  | negSucc k => omega
theorem nx_none {zs : List Int} {i : Nat} {z : Int} (h : zs[i]? = some z) (hz : z < 0) : nx zs i = none := by
  unfold nx; rw [h]
  cases z with
  | ofNat k => have : (0 : Int) ≤ Int.ofNat k := Int.natCast_nonneg k; omega
  | negSucc k => rfl
theorem nx_lt {zs : List Int} {n : Nat} (hz : ∀ (j : Nat) (z : Int), zs[j]? = some z → z < n) : ∀ x y, nx zs x = some y → y < n := by
  intro x y h
  unfold nx at h
  split at h
  · rename_i k hk
    cases h
    have := hz _ _ hk
    simp at this
    omega
  · cases h

set_option maxHeartbeats 2000000 in
theorem index_any (b cap x : Nat) (p : List Nat) (w : World) (hl : p.length ≤ 2000) (hc : ∀ j, j < p.length → w.cell? ⟨b, j, none⟩ = some (.int .i64 (p.getD j 0 : Nat))) (hx : x ∈ p) :
    Calls Yba.prog 5 #[.slice (some ⟨b, 0, none⟩) p.length cap, .int .i64 (x : Int)] w fun e w' => ∃ i : Nat, e = .returned (.int .i64 (i : Int)) ∧ i < p.length ∧ p.getD i 0 = x ∧ w' = w := by
  have HC : Hid (∀ j, j < p.length → w.cell? ⟨b, j, none⟩ = some (.int .i64 (p.getD j 0 : Nat))) := hc
  clear hc
  go_enter Yba.func5, Yba.ntmps5
  go_wp2
  go_loopw [5, 8] (fun _ s8 wr => ∃ k : Nat, k ≤ p.length ∧ s8 = .int .i64 k ∧ w = wr ∧ Hid (∀ j, j < k → p.getD j 0 ≠ x)) (fun _ s8 _ => p.length - (intOf s8).toNat)
  case atStart => exact ⟨0, Nat.zero_le _, rfl, rfl, fun j hj => absurd hj (Nat.not_lt_zero _)⟩
  case round =>
    obtain ⟨k, hk, rfl, rfl, hn⟩ := hrel
    by_cases hlt : k < p.length
    · have hltz : (k : Int) < (p.length : Int) := by omega
      have hcc := HC.out k hlt
      by_cases hx0 : p.getD k 0 = x
      · have H : Hid (p.getD k 0 = x) := hx0
        rw [hx0] at hcc
        clear hx0
        go_wp2
        go_ret
        exact ⟨k, rfl, hlt, H.out, rfl⟩
      · have H : Hid (p.getD k 0 ≠ x) := hx0
        generalize p.getD k 0 = y at hcc hx0
        have hne : ¬ ((x : Int) = (y : Int)) := by omega
        have hne2 : ((x : Int) == (y : Int)) = false := by simp; omega
        go_wp2
        exact ⟨⟨k + 1, by omega, rfl, by trivial, fun j hj => by
          by_cases e : j = k
          · subst e; exact H.out
          · exact hn.out j (by omega)⟩, by simp [intOf]; omega⟩
    · exfalso
      obtain ⟨j, hj, e⟩ := mem_getD hx
      exact hn.out j (by omega) e

/-- The marks: 2 done, 1 on the path, else 0. -/
def MarkIs (n : Nat) (mk : Nat → Int) (Dn : Nat → Prop) (p : List Nat) : Prop := ∀ j, j < n → (mk j = 2 ↔ Dn j) ∧ (mk j = 1 ↔ j ∈ p) ∧ (mk j = 0 ∨ mk j = 1 ∨ mk j = 2)

theorem MarkIs.snoc {n i : Nat} {mk : Nat → Int} {Dn : Nat → Prop} {p : List Nat} (h : MarkIs n mk Dn p) (hi : i < n) (h0 : mk i = 0) : MarkIs n (fun j => if j = i then 1 else mk j) Dn (p ++ [i]) := by
  intro j hj
  obtain ⟨h1, h2, h3⟩ := h j hj
  by_cases e : j = i
  · subst e
    simp only [if_true]
    refine ⟨⟨fun h => by omega, fun h => absurd (h0.symm.trans (h1.2 h)) (by decide)⟩, by simp, by simp⟩
  · simp only [e, if_false]
    exact ⟨h1, by simp [h2, e], h3⟩

theorem MarkIs.done {n : Nat} {mk : Nat → Int} {Dn : Nat → Prop} {p : List Nat} (h : MarkIs n mk Dn p) : MarkIs n (fun j => if j ∈ p then 2 else mk j) (fun x => Dn x ∨ x ∈ p) [] := by
  intro j hj
  obtain ⟨h1, h2, h3⟩ := h j hj
  by_cases e : j ∈ p
  · simp [e]
  · simp only [e, if_false, or_false]
    refine ⟨h1, ?_, h3⟩
    simp
    exact fun h => e (h2.1 h)

theorem one_new {w : World} {x : Value} {t N : Nat} (hN : N = w.heap.size) : ∀ j u, [x][j]? = some u → (w.alloc (.cells #[x] t)).cell? ((⟨N, 0, none⟩ : Addr).add j) = some u := by
  subst hN
  exact cell_one_new _ _ _

theorem take_if {l l' : List Nat} {x : Nat} (h : l' = l ++ [x]) (mk : Nat → Int) (j : Nat) : (if j = x then (2 : Int) else if j ∈ l then 2 else mk j) = if j ∈ l' then 2 else mk j := by
  rw [h]
  by_cases e : j = x
  · rw [if_pos e, if_pos (by simp [e])]
  · rw [if_neg e]
    by_cases e2 : j ∈ l
    · rw [if_pos e2, if_pos (by simp [e2])]
    · rw [if_neg e2, if_neg (by simp [e, e2])]

/-- What cycles leaves. -/
def CycOut (n : Nat) (zs : List Int) (w w' : World) (v : Value) : Prop :=
  ∃ (cs : List Value) (M : List (Nat × Array Value)) (found : List (List Nat)) (cnt : Nat → Nat), Below w.heap.size w w' ∧ Holds w' M ∧ w'.ownsRow w.heap.size 23 1 v cs.length cs ∧ IsFound M cs found ∧ Ans n (nx zs) found cnt

set_option maxHeartbeats 8000000 in
theorem cycles_any (nb n cap : Nat) (zs : List Int) (w : World) (hn : zs.length = n) (hle : n ≤ 1024) (hz : ∀ (j : Nat) (z : Int), zs[j]? = some z → z < n) (hc : ∀ (j : Nat) (z : Int), zs[j]? = some z → w.cell? ⟨nb, j, none⟩ = some (.int .i64 z)) :
    Calls Yba.prog 4 #[.slice (some ⟨nb, 0, none⟩) n cap] w fun e w' => ∃ v, e = .returned v ∧ CycOut n zs w w' v := by
  obtain ⟨i3, hi3, hz30, hz31, hz32⟩ := info_parts info3
  obtain ⟨i23, hi23, hz20, hz21, hz22⟩ := info_parts info23
  obtain ⟨i30, hi30, hz300, hz301, hz302⟩ := info_parts info30
  have HC : Hid (∀ (j : Nat) (z : Int), zs[j]? = some z → w.cell? ⟨nb, j, none⟩ = some (.int .i64 z)) := hc
  have HZ : Hid (∀ (j : Nat) (z : Int), zs[j]? = some z → z < n) := hz
  have HN : Hid (zs.length = n) := hn
  clear hc hz hn
  go_enter Yba.func4, Yba.ntmps4
  go_wp2_with (at_make; refine wpList_make_full _ rfl (.tmp 11) (.tmp 11) 29 rfl w.heap.size 30 i30 (.int .i8 0) 1 Yba.underlying29 hi30 hz300 hz301 _ _ _ _ n rfl rfl rfl rfl ?m2 ?m3 ?m4 ?_)
  case m2 => rw [hz302]; omega
  case m3 => unfold maxLen; omega
  case m4 => omega
  intro w2 hown2 hgr2
  have hC0 : Hid (Cs w w2 w.heap.size n (fun _ => 0) [] (.slice none 0 0) [] []) := by
    refine ⟨row_made hown2, Nat.le_refl _, fun b c h => by simp at h, World.ownsRow_nil _ _ _ _, IsFound.nil, (Below.refl _ w).grown hgr2 (Nat.le_refl _) (fun k hk => by simp at hk)⟩
  clear hown2 hgr2
  go_wp2_with fail
  go_loopg [4, 5, 6, 7, 9, 15] n (fun gg s4 _ _ _ _ s15 wr => ∃ (k : Nat) (mk : Nat → Int) (M : List (Nat × Array Value)) (cs : List Value) (found : List (List Nat)) (cnt : Nat → Nat) (Dn : Nat → Prop), k ≤ n ∧ n - k ≤ gg ∧ s15 = .int .i64 k ∧ Hid (Cs w wr w.heap.size n mk M s4 cs found) ∧ Hid (MarkIs n mk Dn []) ∧ Hid (Inv n (nx zs) k found cnt Dn) ∧ Hid (found.length ≤ k))
  case atStart => exact ⟨0, _, [], [], [], _, _, Nat.zero_le _, by omega, rfl, hC0, (fun j hj => by simp), Inv.start n, Nat.le_refl _⟩
  case round =>
    obtain ⟨k, mk, M, cs, found, cnt, Dn, hk, hg, rfl, hC, hM, hI, hF⟩ := hrel
    by_cases hlt : k < n
    · have hltz : (k : Int) < (n : Int) := by omega
      go_wp2_with fail
      go_loopg [6, 7] n (fun gg s6 s7 wp => ∃ (i : Int) (mk' : Nat → Int) (p : List Nat), n - p.length ≤ gg ∧ i < n ∧ s7 = .int .i64 i ∧ Hid (Cs w wp w.heap.size n mk' M u4 cs found) ∧ Hid (Pa w wp M s6 p) ∧ Hid (MarkIs n mk' Dn p) ∧ Hid (Path (nx zs) k Dn p) ∧ Hid ((0 ≤ i → it (nx zs) p.length k = some i.toNat) ∧ (i < 0 → it (nx zs) p.length k = none)))
      case atStart => exact ⟨k, mk, [], by simp, by omega, rfl, hC, Pa.nil, hM, Path.nil _ _, ⟨fun _ => by simp [it], fun h => by omega⟩⟩
      case round =>
        obtain ⟨i, mk', p, hg2, hin, rfl, hC2, hP2, hM2, hT2, hi2⟩ := hrel
        go_upto_region 8 with fail
        go_cut [27] (fun s27 wx => wr = wx ∧ s27 = .bool (decide (0 ≤ i ∧ mk' i.toNat = 0)))
        case first =>
          by_cases hi : 0 ≤ i
          · obtain ⟨m, rfl⟩ : ∃ m : Nat, i = m := ⟨i.toNat, by omega⟩
            have hmn : m < n := by omega
            have hcm := hC2.out.marks.cell hmn
            by_cases h0 : mk' m = 0
            · rw [h0] at hcm
              have H0 : Hid (mk' m = 0) := h0
              clear h0
              go_wp2
              go_meet
              exact ⟨rfl, by rw [decide_eq_true ⟨hi, by simpa using H0.out⟩]⟩
            · have H0 : Hid (¬ mk' m = 0) := h0
              have h0b : (mk' m == 0) = false := by simpa using h0
              generalize mk' m = q at hcm h0 h0b
              go_wp2
              go_meet
              exact ⟨rfl, by rw [decide_eq_false (fun h => H0.out (by simpa using h.2))]⟩
          · have H0 : Hid (¬ 0 ≤ i) := hi
            go_wp2
            go_meet
            exact ⟨rfl, by rw [decide_eq_false (fun h => by have := H0.out; omega)]⟩
        case rest =>
          obtain ⟨rfl, rfl⟩ := hcut
          by_cases hcond : 0 ≤ i ∧ mk' i.toNat = 0
          · rw [decide_eq_true hcond]
            obtain ⟨hi, h0⟩ := hcond
            obtain ⟨m, rfl⟩ : ∃ m : Nat, i = m := ⟨i.toNat, by omega⟩
            have hmn : m < n := by omega
            have h0 : Hid (mk' m = 0) := Hid.mk' (by simpa using h0)
            have hcm := hC2.out.marks.cell hmn
            have hfm := hC2.out.marks.free m
            rw [h0.out] at hcm
            have hzl : m < zs.length := by have := HN.out; omega
            have hzm : zs[m]? = some zs[m] := List.getElem?_eq_getElem hzl
            have hnb : nb < w.heap.size := block_lt_of_cell (HC.out m _ hzm)
            have hcn : Hid (w.cell? ⟨nb, m, none⟩ = some (.int .i64 zs[m])) := HC.out m _ hzm
            have hzn : Hid (zs[m] < n) := HZ.out m _ hzm
            have hzp : Hid (0 ≤ zs[m] → nx zs m = some zs[m].toNat) := fun h => nx_some hzm h
            have hzq : Hid (zs[m] < 0 → nx zs m = none) := fun h => nx_none hzm h
            clear hzm
            generalize zs[m] = z at hcn hzn hzp hzq
            have hC3 : Hid (Cs w (wr.setCell ⟨w.heap.size, m, none⟩ (.int .i8 1)) w.heap.size n (fun j => if j = m then 1 else mk' j) M u4 cs found) := hC2.out.set m 1
            have hP3 : Hid (Pa w (wr.setCell ⟨w.heap.size, m, none⟩ (.int .i8 1)) M u6 p) := Pa.set hC2.out hP2.out m _
            have hit : Hid (it (nx zs) p.length k = some m) := Hid.mk' (by simpa using hi2.out.1 hi)
            have hDm : Hid (¬ Dn m) := fun h => by
              have h1 := (hM2.out m hmn).1.2 h
              rw [h0.out] at h1
              exact absurd h1 (by decide)
            have hpm : Hid (m ∉ p) := fun h => by
              have h1 := (hM2.out m hmn).2.1.2 h
              rw [h0.out] at h1
              exact absurd h1 (by decide)
            have hT3 : Hid (Path (nx zs) k Dn (p ++ [m])) := hT2.out.snoc hit.out hDm.out hpm.out
            have hpl : p.length + 1 ≤ n := by
              have := nodup_le hT3.out.nodup (path_lt (nx_lt HZ.out) hlt hT3.out)
              simpa using this
            go_wp2_with (at_builtin; refine wpList_append_own_at _ rfl (.tmp 31) (.tmp 33) 23 rfl w.heap.size 3 i3 (.int .i64 0) 1 8 Yba.underlying23 hi3 hz30 hz31 hz32 rfl (by decide) _ _ _ rfl (hP3.out.alloc _).own _ 1 1 [.int .i64 (m : Int)] rfl rfl ?c1 ?c2 ?c3 ?c4 ?c5 ?_)
            case c1 => exact one_new (by simp)
            case c2 => intro u hu; simp at hu; subst hu; rfl
            case c3 => unfold maxLen; omega
            case c4 => omega
            case c5 => exact (hC3.out.alloc _).bel.size
            intro v1 w1 hown1 hgrow1 _ hat1
            have hC4 : Hid (Cs w w1 w.heap.size n (fun j => if j = m then 1 else mk' j) M u4 cs found) := (hC3.out.alloc _).path (hP3.out.alloc _) hgrow1
            have hP4 : Hid (Pa w w1 M v1 (p ++ [m])) := Pa.grow (hC3.out.alloc (.cells #[.int .i64 (m : Int)] 3)) (hP3.out.alloc _) m hown1 (by simpa using hat1)
            have hcz : w1.cell? ⟨nb, m, none⟩ = some (.int .i64 z) := (hC4.out.bel.cell (p := ⟨nb, m, none⟩) hnb).trans hcn.out
            clear hown1 hgrow1 hat1 hcm hfm
            go_wp2
            go_roundg (n - (p.length + 1))
            case measure => omega
            case rel =>
              refine ⟨z, _, p ++ [m], by simp, hzn.out, rfl, hC4, hP4, hM2.out.snoc hmn h0.out, hT3, ?_⟩
              have e : it (nx zs) (p ++ [m]).length k = nx zs m := by
                rw [List.length_append]
                show (it (nx zs) p.length k).bind (nx zs) = _
                rw [hit.out]; rfl
              rw [e]
              exact ⟨hzp.out, hzq.out⟩
          · rw [decide_eq_false hcond]
            have hX : Hid (¬ (0 ≤ i ∧ mk' i.toNat = 0)) := hcond
            clear hcond
            go_upto_region 12 with fail
            go_cut [47] (fun s47 wx => wr = wx ∧ s47 = .bool (decide (0 ≤ i ∧ mk' i.toNat = 1)))
            case first =>
              by_cases hi : 0 ≤ i
              · obtain ⟨m, rfl⟩ : ∃ m : Nat, i = m := ⟨i.toNat, by omega⟩
                have hmn : m < n := by omega
                have hcm := hC2.out.marks.cell hmn
                by_cases h0 : mk' m = 1
                · rw [h0] at hcm
                  have H0 : Hid (mk' m = 1) := h0
                  clear h0
                  go_wp2
                  go_meet
                  exact ⟨rfl, by rw [decide_eq_true ⟨hi, by simpa using H0.out⟩]⟩
                · have H0 : Hid (¬ mk' m = 1) := h0
                  have h0b : (mk' m == 1) = false := by simpa using h0
                  generalize mk' m = q at hcm h0 h0b
                  go_wp2
                  go_meet
                  exact ⟨rfl, by rw [decide_eq_false (fun h => H0.out (by simpa using h.2))]⟩
              · have H0 : Hid (¬ 0 ≤ i) := hi
                go_wp2
                go_meet
                exact ⟨rfl, by rw [decide_eq_false (fun h => by have := H0.out; omega)]⟩
            case rest =>
              obtain ⟨rfl, rfl⟩ := hcut
              go_upto_if 47 with fail
              go_cut [4] (fun s4 wx => ∃ (M' : List (Nat × Array Value)) (cs' : List Value) (found' : List (List Nat)) (cnt' : Nat → Nat), Hid (Cs w wx w.heap.size n mk' M' s4 cs' found') ∧ Hid (wx.ownsRow w.heap.size 3 1 u6 p.length (p.map fun x : Nat => .int .i64 (x : Int))) ∧ Hid (Inv n (nx zs) (k + 1) found' cnt' (fun x => Dn x ∨ x ∈ p)) ∧ Hid (found'.length ≤ k + 1))
              case first =>
                by_cases hc2 : 0 ≤ i ∧ mk' i.toNat = 1
                · rw [decide_eq_true hc2]
                  obtain ⟨hi, h1⟩ := hc2
                  obtain ⟨m, rfl⟩ : ∃ m : Nat, i = m := ⟨i.toNat, by omega⟩
                  have hmn : m < n := by omega
                  have hmp : Hid (m ∈ p) := (hM2.out m hmn).2.1.1 (by simpa using h1)
                  have hit : Hid (it (nx zs) p.length k = some m) := Hid.mk' (by simpa using hi2.out.1 hi)
                  have hpl : p.length ≤ n := nodup_le hT2.out.nodup (path_lt (nx_lt HZ.out) hlt hT2.out)
                  obtain ⟨g, cap', hv, hBg, hgl, hpl2, hcap, hgc, cur, hcur⟩ := owns_row hP2.out.own (List.length_pos_of_mem hmp.out)
                  subst hv
                  have hpc : ∀ j, j < p.length → wr.cell? ⟨g, j, none⟩ = some (.int .i64 (p.getD j 0 : Nat)) := fun j hj => hgc j _ (by rw [List.getElem?_map, List.getD_eq_getElem?_getD, List.getElem?_eq_getElem hj]; rfl)
                  have hIx := index_any g cap' m p wr (by omega) hpc hmp.out
                  have hC3 : Hid (Cs w wr w.heap.size n mk' (M ++ [(g, cur)]) u4 cs found) := hC2.out.join hcur
                  have hcc : Hid (∀ j, j < p.length → cur[j]? = some (.int .i64 (p.getD j 0 : Nat))) := fun j hj => by rw [← blk_cell hcur]; exact hpc j hj
                  clear h1 hpl2 hgc hcur hpc
                  go_wp2_with fail
                  refine hIx.mono ?_
                  rintro e w1 ⟨idx, rfl, hidx, hpi, rfl⟩
                  have HPI : Hid (p.getD idx 0 = m) := hpi
                  clear hpi hIx
                  have hdl : (p.drop idx).length = p.length - idx := by simp
                  go_wp2_with (at_builtin; refine wpList_append_own_at _ rfl (.tmp 48) (.tmp 54) 25 rfl w.heap.size 23 i23 (.slice none 0 0) 1 24 Yba.underlying25 hi23 hz20 hz21 hz22 rfl (by decide) _ _ _ rfl (hC3.out.alloc _).own _ 1 1 [.slice (some ⟨g, idx, none⟩) (p.length - idx) (cap' - idx)] rfl rfl ?c1 ?c2 ?c3 ?c4 ?c5 ?_)
                  case c1 => exact one_new (by simp)
                  case c2 => intro u hu; simp at hu; subst hu; rfl
                  case c3 => have := hC3.out.isf.1; have := hF.out; unfold maxLen; omega
                  case c4 => have := hC3.out.isf.1; have := hF.out; omega
                  case c5 => exact (hC3.out.alloc _).bel.size
                  intro v1 w2' hown1 hgrow1 _ hat1
                  have hfs : IsFound (M ++ [(g, cur)]) (cs ++ [.slice (some ⟨g, idx, none⟩) (p.length - idx) (cap' - idx)]) (found ++ [p.drop idx]) := by
                    have h1 := hC3.out.isf.snoc (b := g) (o := idx) (cp := cap' - idx) (cur := cur) (c := p.drop idx) (by omega) (by simp) (fun j hj => by
                      rw [hcc.out (idx + j) (by omega)]
                      simp [List.getD_eq_getElem?_getD, List.getElem?_drop])
                    rw [hdl] at h1
                    exact h1
                  have hC6 : Hid (Cs w w2' w.heap.size n mk' (M ++ [(g, cur)]) v1 (cs ++ [.slice (some ⟨g, idx, none⟩) (p.length - idx) (cap' - idx)]) (found ++ [p.drop idx])) := (hC3.out.alloc _).grow hown1 hgrow1 hfs
                  have hO6 : Hid (w2'.ownsRow w.heap.size 3 1 (.slice (some ⟨g, 0, none⟩) p.length cap') p.length (p.map fun x : Nat => .int .i64 (x : Int))) := (hP2.out.own.alloc _).kept hgrow1 (own_ne hP2.out.own hC3.out.own (by decide))
                  have hI6 : Hid (Inv n (nx zs) (k + 1) (found ++ [p.drop idx]) (upd cnt k (found.length + 1)) (fun x => Dn x ∨ x ∈ p)) := hI.out.new (nx_lt HZ.out) hlt hT2.out hit.out hidx HPI.out
                  clear hown1 hgrow1 hat1 hfs
                  go_wp2
                  go_meet
                  exact ⟨_, _, _, _, hC6, hO6, hI6, Hid.mk' (by have := hF.out; simp; omega)⟩
                · rw [decide_eq_false hc2]
                  have H2 : Hid (¬ (0 ≤ i ∧ mk' i.toNat = 1)) := hc2
                  clear hc2
                  go_wp2
                  go_meet
                  refine ⟨M, cs, found, upd cnt k found.length, hC2, hP2.out.own, hI.out.old (nx_lt HZ.out) hlt hT2.out (fun j hj => ?_), Nat.le_succ_of_le hF.out⟩
                  have hi0 : 0 ≤ i := by
                    rcases Int.lt_or_le i 0 with h | h
                    · rw [hi2.out.2 h] at hj; cases hj
                    · exact h
                  rw [hi2.out.1 hi0] at hj
                  cases hj
                  obtain ⟨h1, h2, h3⟩ := hM2.out i.toNat (by omega)
                  have hx0 := hX.out
                  have hx1 := H2.out
                  refine h1.1 ?_
                  rcases h3 with h3 | h3 | h3
                  · exact absurd ⟨hi0, h3⟩ hx0
                  · exact absurd ⟨hi0, h3⟩ hx1
                  · exact h3
              case rest =>
                obtain ⟨M', cs', found', cnt', hC5, hO5, hI5, hF5⟩ := hcut
                have hpl : p.length ≤ n := nodup_le hT2.out.nodup (path_lt (nx_lt HZ.out) hlt hT2.out)
                have hpn : Hid (∀ x ∈ p, x < n) := path_lt (nx_lt HZ.out) hlt hT2.out
                have hMd : Hid (MarkIs n (fun j => if j ∈ p then 2 else mk' j) (fun x => Dn x ∨ x ∈ p) []) := hM2.out.done
                clear hC2 hP2 hM2 hT2 hi2 hX
                obtain ⟨ao6, cap6, hv6, _⟩ := owns_any hO5.out
                subst hv6
                go_wp2_with fail
                go_loopg [9, 58] p.length (fun gg _ s58 wt => ∃ t : Nat, t ≤ p.length ∧ p.length - t ≤ gg ∧ s58 = .int .i64 t ∧ Hid (Cs w wt w.heap.size n (fun j => if j ∈ p.take t then 2 else mk' j) M' u4 cs' found') ∧ Hid (wt.ownsRow w.heap.size 3 1 (.slice ao6 p.length cap6) p.length (p.map fun x : Nat => .int .i64 (x : Int))))
                case atStart => exact ⟨0, Nat.zero_le _, by omega, rfl, Hid.mk' (hC5.out.marked (fun j _ => by simp)), hO5⟩
                case round =>
                  obtain ⟨t, ht, hg3, rfl, hC7, hO7⟩ := hrel
                  by_cases htl : t < p.length
                  · have htz : (t : Int) < (p.length : Int) := by omega
                    obtain ⟨g, cap', hv, _, _, _, _, hgc, _⟩ := owns_row hO7.out (by omega)
                    simp only [Value.slice.injEq, true_and] at hv
                    obtain ⟨rfl, rfl⟩ := hv
                    have hpt : p[t]? = some p[t] := List.getElem?_eq_getElem htl
                    have hct : wr.cell? ⟨g, t, none⟩ = some (.int .i64 (p[t] : Nat)) := hgc t _ (by rw [List.getElem?_map, hpt]; rfl)
                    have hxn : p[t] < n := hpn.out _ (List.getElem_mem htl)
                    have htk : Hid (p.take (t + 1) = p.take t ++ [p[t]]) := Hid.mk' (by rw [List.take_add_one, hpt]; rfl)
                    have hcm := hC7.out.marks.cell hxn
                    have hfm := hC7.out.marks.free p[t]
                    have hC8 := hC7.out.set p[t] 2
                    have hO8 : Hid ((wr.setCell ⟨w.heap.size, p[t], none⟩ (.int .i8 2)).ownsRow w.heap.size 3 1 (.slice (some ⟨g, 0, none⟩) p.length cap6) p.length (p.map fun x : Nat => .int .i64 (x : Int))) := ownsRow_setCell_other hO7.out (hC7.out.marks.ne (by decide) hO7.out) _
                    have hC9 : Hid (Cs w (wr.setCell ⟨w.heap.size, p[t], none⟩ (.int .i8 2)) w.heap.size n (fun j => if j ∈ p.take (t + 1) then 2 else mk' j) M' u4 cs' found') := hC8.marked (fun j _ => take_if htk.out mk' j)
                    clear hC8 hpt hgc
                    generalize hx : (if p[t] ∈ p.take t then (2 : Int) else mk' p[t]) = q at hcm
                    clear hx
                    generalize p[t] = x at hct hxn htk hcm hfm hO8 hC9
                    go_wp2
                    go_roundg (p.length - (t + 1))
                    case measure => omega
                    case rel => exact ⟨t + 1, by omega, by omega, rfl, hC9, hO8⟩
                  · have htz : ¬ ((t : Int) < (p.length : Int)) := by omega
                    have hC10 : Hid (Cs w wr w.heap.size n (fun j => if j ∈ p then 2 else mk' j) M' u4 cs' found') := by
                      have := hC7.out
                      rw [List.take_of_length_le (by omega)] at this
                      exact this
                    go_wp2
                    go_roundg (n - (k + 1))
                    case measure => omega
                    case rel => exact ⟨k + 1, _, M', cs', found', cnt', _, by omega, by omega, rfl, hC10, hMd, hI5, hF5⟩
    · have hge : ¬ ((k : Int) < (n : Int)) := by omega
      go_wp2
      go_ret
      obtain rfl : k = n := by omega
      exact ⟨_, rfl, cs, M, found, cnt, hC.out.bel, hC.out.holds, hC.out.own, hC.out.isf, hI.out.ans⟩
end Go.Proofs.Ybulkalhs.Cycles
