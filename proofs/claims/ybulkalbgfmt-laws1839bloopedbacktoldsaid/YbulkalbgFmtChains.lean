/-
  Chains, at ("filter", "INPUT") and at ("raw", "PREROUTING").
-/
import Derived.Test.YbulkalbgFmtBack
namespace Go.Proofs.YbulkalbgFmt.Chains
open Go.RowKit Blocks Mem Reads Back
set_option linter.unusedVariables false
set_option linter.unusedSimpArgs false
set_option maxRecDepth 100000

theorem cap_ok {w : World} {B n : Nat} {v : Value} {xs : List Value} (h : w.ownsRow B 25 1 v n xs) : xs.length = n := by simpa using h.1

theorem Hid.mk' {p : Prop} (h : p) : Hid p := h

set_option maxHeartbeats 8000000 in
theorem chains_fil (fw n cap : Nat) (ao : Option Addr) (M : List (Nat × Obj)) (ds : List D) (w : World) (hn : n = ds.length) (hlen : ds.length ≤ 256) (h0 : w.cell? ⟨fw, 0, none⟩ = some (.slice ao n cap)) (h4 : w.cell? ⟨fw, 4, none⟩ = some (.pointer none)) (hW : Holds w M)
    (hb : ∀ d ∈ ds, IsBack M d) (hc : ∀ (j : Nat) (d : D), ds[j]? = some d → ∃ bb, ao = some ⟨bb, 0, none⟩ ∧ w.cell? ⟨bb, j, none⟩ = some (ptr d.rs) ∧ bb < w.heap.size) :
    Calls Ybaf.prog 7 #[ptr fw, .string sFIL, .string sIN] w fun e w' => ∃ v, e = .returned v ∧ Below w.heap.size w w' ∧ w'.ownsRow w.heap.size 25 1 v (ins ds).length (ins ds) := by
  obtain ⟨i0, hi, hz0, hz1, hz2⟩ := info_parts info25
  have HC : Hid (∀ (j : Nat) (d : D), ds[j]? = some d → ∃ bb, ao = some ⟨bb, 0, none⟩ ∧ w.cell? ⟨bb, j, none⟩ = some (ptr d.rs) ∧ bb < w.heap.size) := hc
  have HB : Hid (∀ d ∈ ds, IsBack M d) := hb
  have hnl : n ≤ ds.length := by omega
  have hnl2 : Hid (n = ds.length) := hn
  clear hc hb hn
  show Calls Ybaf.prog 7 #[.pointer (some ⟨fw, 0, none⟩), .string ⟨#[102, 105, 108, 116, 101, 114]⟩, .string ⟨#[73, 78, 80, 85, 84]⟩] w _
  go_enter Ybaf.func7, Ybaf.ntmps7
  go_wp2
  go_loopw [7, 9, 10, 11, 33] (fun s7 _ _ _ s33 wr => ∃ k : Nat, k ≤ n ∧ s33 = .int .i64 k ∧ Hid (Below w.heap.size w wr) ∧ Hid (wr.ownsRow w.heap.size 25 1 s7 (ins (ds.take k)).length (ins (ds.take k)))) (fun _ _ _ _ s33 _ => n - (intOf s33).toNat)
  case atStart => exact ⟨0, Nat.zero_le _, rfl, Below.refl _ _, World.ownsRow_nil _ _ _ _⟩
  case round =>
    obtain ⟨k, hk, rfl, hbw, hown⟩ := hrel
    by_cases hlt : k < n
    · have hltz : (k : Int) < (n : Int) := by omega
      have hkd : k < ds.length := by omega
      have hd0 : ds[k]? = some ds[k] := List.getElem?_eq_getElem hkd
      have htk : ds.take (k + 1) = ds.take k ++ [ds[k]] := by rw [List.take_add_one, hd0]; rfl
      have hB0 := HB.out ds[k] (List.getElem_mem hkd)
      obtain ⟨bb, hao, hcell, hbb⟩ := HC.out k _ hd0
      subst hao
      have hcr : wr.cell? ⟨bb, k, none⟩ = some (ptr ds[k].rs) := (hbw.out.cell (p := ⟨bb, k, none⟩) hbb).trans hcell
      simp only [ptr] at hcr
      have HT : Hid (ds.take (k + 1) = ds.take k ++ [ds[k]]) := htk
      clear htk hd0 hcell
      generalize ds[k] = d at hB0 hcr HT
      have hWr : Hid (Holds wr M) := fun b o hm => by rw [hbw.out.block b (hW.lt hm)]; exact hW b o hm
      have hA : Hid (w.heap.size ≤ wr.heap.size) := hbw.out.size
      obtain ⟨fb, hF⟩ := back_fil hB0
      go_wp2_with fail
      refine (hF wr hWr.out).1.mono ?_
      rintro e w1 ⟨rfl, hb1⟩
      have hb1 : Hid (Below wr.heap.size wr w1) := hb1
      have hW1 : Hid (Holds w1 M) := hWr.out.below hb1.out
      have hT1 : Hid (Below w.heap.size w w1) := below_next hbw.out hA.out hb1.out
      have ho1 := Hid.mk' (owns_below hown.out hb1.out)
      clear hcr
      simp only [ptr]
      go_wp2_with fail
      refine (hF w1 hW1.out).2.1.mono ?_
      rintro e w2 ⟨rfl, hb2⟩
      have hb2 : Hid (Below w1.heap.size w1 w2) := hb2
      have hW2 : Hid (Holds w2 M) := hW1.out.below hb2.out
      have hT2 : Hid (Below w.heap.size w w2) := below_next hT1.out hT1.out.size hb2.out
      have ho2 := Hid.mk' (owns_below ho1.out hb2.out)
      cases hh : d.held with
      | false =>
        have HH : Hid (d.held = false) := hh
        clear hh
        go_wp2
        exact ⟨⟨k + 1, by omega, rfl, hT2, by
            rw [HT.out, ins_snoc]
            simp only [HH.out, Bool.false_and, Bool.and_false, if_false, Bool.false_eq_true, List.append_nil]
            exact ho2.out⟩, by simp [intOf]; omega⟩
      | true =>
        have HH : Hid (d.held = true) := hh
        clear hh
        go_wp2_with fail
        refine (hF w2 hW2.out).2.2.1.mono ?_
        rintro e w3 ⟨rfl, hb3⟩
        have hb3 : Hid (Below w2.heap.size w2 w3) := hb3
        have hW3 : Hid (Holds w3 M) := hW2.out.below hb3.out
        have hT3 : Hid (Below w.heap.size w w3) := below_next hT2.out hT2.out.size hb3.out
        have ho3 := Hid.mk' (owns_below ho2.out hb3.out)
        simp only [ptr]
        go_wp2_with fail
        refine (hF w3 hW3.out).2.2.2.mono ?_
        rintro e w3' ⟨rfl, rfl⟩
        cases hp : d.inp with
        | false =>
          have HP : Hid (d.inp = false) := hp
          clear hp
          go_wp2
          exact ⟨⟨k + 1, by omega, rfl, hT3, by
            rw [HT.out, ins_snoc]
            simp only [HP.out, Bool.false_and, Bool.and_false, if_false, Bool.false_eq_true, List.append_nil]
            exact ho3.out⟩, by simp [intOf]; omega⟩
        | true =>
        have HP : Hid (d.inp = true) := hp
        clear hp
        go_wp2_with (at_builtin; refine wpList_append_own_at _ rfl (.tmp 60) (.tmp 62) 24 rfl w.heap.size 25 i0 (.pointer none) 1 8 Ybaf.underlying24 hi hz0 hz1 hz2 rfl (by decide) _ _ _ rfl (ho3.out.alloc _) _ 1 1 [ptr d.inb] rfl rfl ?c1 ?c2 ?c3 ?c4 ?c5 ?_)
        case c1 => exact cell_one_new _ _ _
        case c2 => intro u hu; simp at hu; subst hu; rfl
        case c3 => have := ins_len (ds.take k); simp at this; unfold maxLen; omega
        case c4 => have := ins_len (ds.take k); simp at this; omega
        case c5 => have := hT3.out.size; simp; omega
        intro v1 w4 hown4 hgrow4 _ _
        have hb4 : Hid (Below w.heap.size w w4) := (hT3.out.alloc hT3.out.size _).grown hgrow4 (by have := hT3.out.size; simp; omega) (fun k hk => (ho3.out.lt k hk).1)
        have ho4 : Hid (w4.ownsRow w.heap.size 25 1 v1 (ins (ds.take (k + 1))).length (ins (ds.take (k + 1)))) := by
          rw [HT.out, ins_snoc]
          simp only [HH.out, HP.out, Bool.and_self, if_true, List.length_append, List.length_singleton]
          exact hown4
        clear hown4 hgrow4
        go_wp2
        exact ⟨⟨k + 1, by omega, rfl, hb4, ho4⟩, by simp [intOf]; omega⟩
    · have hge : ¬ ((k : Int) < (n : Int)) := by omega
      have hkn : Hid (ds.take k = ds) := List.take_of_length_le (by have := hnl2.out; omega)
      go_wp2
      go_ret
      exact ⟨_, rfl, hbw.out, by have := hown.out; rw [hkn.out] at this; exact this⟩

set_option maxHeartbeats 8000000 in
theorem chains_raw (fw n cap : Nat) (ao : Option Addr) (M : List (Nat × Obj)) (ds : List D) (w : World) (hn : n = ds.length) (hlen : ds.length ≤ 256) (h0 : w.cell? ⟨fw, 0, none⟩ = some (.slice ao n cap)) (hW : Holds w M)
    (hb : ∀ d ∈ ds, IsBack M d) (hc : ∀ (j : Nat) (d : D), ds[j]? = some d → ∃ bb, ao = some ⟨bb, 0, none⟩ ∧ w.cell? ⟨bb, j, none⟩ = some (ptr d.rs) ∧ bb < w.heap.size) :
    Calls Ybaf.prog 7 #[ptr fw, .string sRAW, .string sPRE] w fun e w' => ∃ v, e = .returned v ∧ Below w.heap.size w w' ∧ w'.ownsRow w.heap.size 25 1 v (pres ds).length (pres ds) := by
  obtain ⟨i0, hi, hz0, hz1, hz2⟩ := info_parts info25
  have HC : Hid (∀ (j : Nat) (d : D), ds[j]? = some d → ∃ bb, ao = some ⟨bb, 0, none⟩ ∧ w.cell? ⟨bb, j, none⟩ = some (ptr d.rs) ∧ bb < w.heap.size) := hc
  have HB : Hid (∀ d ∈ ds, IsBack M d) := hb
  have hnl : n ≤ ds.length := by omega
  have hnl2 : Hid (n = ds.length) := hn
  clear hc hb hn
  show Calls Ybaf.prog 7 #[.pointer (some ⟨fw, 0, none⟩), .string ⟨#[114, 97, 119]⟩, .string ⟨#[80, 82, 69, 82, 79, 85, 84, 73, 78, 71]⟩] w _
  go_enter Ybaf.func7, Ybaf.ntmps7
  go_wp2
  go_loopw [7, 9, 10, 11, 33] (fun s7 _ _ _ s33 wr => ∃ k : Nat, k ≤ n ∧ s33 = .int .i64 k ∧ Hid (Below w.heap.size w wr) ∧ Hid (wr.ownsRow w.heap.size 25 1 s7 (pres (ds.take k)).length (pres (ds.take k)))) (fun _ _ _ _ s33 _ => n - (intOf s33).toNat)
  case atStart => exact ⟨0, Nat.zero_le _, rfl, Below.refl _ _, World.ownsRow_nil _ _ _ _⟩
  case round =>
    obtain ⟨k, hk, rfl, hbw, hown⟩ := hrel
    by_cases hlt : k < n
    · have hltz : (k : Int) < (n : Int) := by omega
      have hkd : k < ds.length := by omega
      have hd0 : ds[k]? = some ds[k] := List.getElem?_eq_getElem hkd
      have htk : ds.take (k + 1) = ds.take k ++ [ds[k]] := by rw [List.take_add_one, hd0]; rfl
      have hB0 := HB.out ds[k] (List.getElem_mem hkd)
      obtain ⟨bb, hao, hcell, hbb⟩ := HC.out k _ hd0
      subst hao
      have hcr : wr.cell? ⟨bb, k, none⟩ = some (ptr ds[k].rs) := (hbw.out.cell (p := ⟨bb, k, none⟩) hbb).trans hcell
      simp only [ptr] at hcr
      have HT : Hid (ds.take (k + 1) = ds.take k ++ [ds[k]]) := htk
      clear htk hd0 hcell
      generalize ds[k] = d at hB0 hcr HT
      have hWr : Hid (Holds wr M) := fun b o hm => by rw [hbw.out.block b (hW.lt hm)]; exact hW b o hm
      have hA : Hid (w.heap.size ≤ wr.heap.size) := hbw.out.size
      rcases back_raw hB0 with ⟨hr, hF⟩ | ⟨hr, rb, hF⟩
      · have HH : Hid (d.raw = false) := hr
        clear hr
        go_wp2_with fail
        refine (hF wr hWr.out).mono ?_
        rintro e w1 ⟨rfl, hb1⟩
        have hb1 : Hid (Below wr.heap.size wr w1) := hb1
        have hT1 : Hid (Below w.heap.size w w1) := below_next hbw.out hA.out hb1.out
        have ho1 := Hid.mk' (owns_below hown.out hb1.out)
        clear hcr
        go_wp2
        exact ⟨⟨k + 1, by omega, rfl, hT1, by
            rw [HT.out, pres_snoc]
            simp only [HH.out, Bool.false_and, Bool.and_false, if_false, Bool.false_eq_true, List.append_nil]
            exact ho1.out⟩, by simp [intOf]; omega⟩
      have HH : Hid (d.raw = true) := hr
      clear hr
      go_wp2_with fail
      refine (hF wr hWr.out).1.mono ?_
      rintro e w1 ⟨rfl, hb1⟩
      have hb1 : Hid (Below wr.heap.size wr w1) := hb1
      have hW1 : Hid (Holds w1 M) := hWr.out.below hb1.out
      have hT1 : Hid (Below w.heap.size w w1) := below_next hbw.out hA.out hb1.out
      have ho1 := Hid.mk' (owns_below hown.out hb1.out)
      clear hcr
      simp only [ptr]
      go_wp2_with fail
      refine (hF w1 hW1.out).2.1.mono ?_
      rintro e w3 ⟨rfl, hb3⟩
      have hb3 : Hid (Below w1.heap.size w1 w3) := hb3
      have hW3 : Hid (Holds w3 M) := hW1.out.below hb3.out
      have hT3 : Hid (Below w.heap.size w w3) := below_next hT1.out hT1.out.size hb3.out
      have ho3 := Hid.mk' (owns_below ho1.out hb3.out)
      simp only [ptr]
      go_wp2_with fail
      refine (hF w3 hW3.out).2.2.mono ?_
      rintro e w3' ⟨rfl, rfl⟩
      cases hp : d.pre with
      | false =>
        have HP : Hid (d.pre = false) := hp
        clear hp
        go_wp2
        exact ⟨⟨k + 1, by omega, rfl, hT3, by
            rw [HT.out, pres_snoc]
            simp only [HP.out, Bool.false_and, Bool.and_false, if_false, Bool.false_eq_true, List.append_nil]
            exact ho3.out⟩, by simp [intOf]; omega⟩
      | true =>
        have HP : Hid (d.pre = true) := hp
        clear hp
        go_wp2_with (at_builtin; refine wpList_append_own_at _ rfl (.tmp 60) (.tmp 62) 24 rfl w.heap.size 25 i0 (.pointer none) 1 8 Ybaf.underlying24 hi hz0 hz1 hz2 rfl (by decide) _ _ _ rfl (ho3.out.alloc _) _ 1 1 [ptr d.preb] rfl rfl ?c1 ?c2 ?c3 ?c4 ?c5 ?_)
        case c1 => exact cell_one_new _ _ _
        case c2 => intro u hu; simp at hu; subst hu; rfl
        case c3 => have := pres_len (ds.take k); simp at this; unfold maxLen; omega
        case c4 => have := pres_len (ds.take k); simp at this; omega
        case c5 => have := hT3.out.size; simp; omega
        intro v1 w4 hown4 hgrow4 _ _
        have hb4 : Hid (Below w.heap.size w w4) := (hT3.out.alloc hT3.out.size _).grown hgrow4 (by have := hT3.out.size; simp; omega) (fun k hk => (ho3.out.lt k hk).1)
        have ho4 : Hid (w4.ownsRow w.heap.size 25 1 v1 (pres (ds.take (k + 1))).length (pres (ds.take (k + 1)))) := by
          rw [HT.out, pres_snoc]
          simp only [HH.out, HP.out, Bool.and_self, if_true, List.length_append, List.length_singleton]
          exact hown4
        clear hown4 hgrow4
        go_wp2
        exact ⟨⟨k + 1, by omega, rfl, hb4, ho4⟩, by simp [intOf]; omega⟩
    · have hge : ¬ ((k : Int) < (n : Int)) := by omega
      have hkn : Hid (ds.take k = ds) := List.take_of_length_le (by have := hnl2.out; omega)
      go_wp2
      go_ret
      exact ⟨_, rfl, hbw.out, by have := hown.out; rw [hkn.out] at this; exact this⟩

end Go.Proofs.YbulkalbgFmt.Chains
