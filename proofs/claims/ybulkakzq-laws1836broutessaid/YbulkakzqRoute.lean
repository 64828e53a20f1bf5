/-
  Group.routeDecision.
-/
import Derived.Test.YbulkakzqRd
namespace Go.Proofs.Ybulkakzq.Route
open Go.RowKit Wire Blocks RegSteps Still Dec Votes Box QueueOut Fam Sp Sorts Split Rd
open Go.Shelf
set_option linter.unusedVariables false
set_option maxRecDepth 100000

/-- delete, by its run. -/
theorem step_delete {P : Program} {ops : Array Oper} {o : Oper} {a : Act} {w w' : World} {K : Act → World → Prop} {Q : Exit → Act → World → Prop} {E : Prop}
    (hg : o.guard = none) (m k : Operand) (t t' : TypeId) (hop : o.op = Op.call { callee := Callee.builtin Builtin.delete, args := #[m, k], argTypes := #[t, t'] })
    (ty : TypeId) (hty : o.type = ty) (mv kv : Value) (hm : a.eval m = mv) (hk : a.eval k = kv) (hr : (Builtin.delete_ #[t, t'] ty #[mv, kv]).run P w = .ok (.tuple #[]) w') (hK : K (a.put o.dst (.tuple #[])) w') :
    if Region.wanted o (yielded ops a.tmps) = true then Oper.wp P o a w K Q else E := by
  have hw : Region.wanted o (yielded ops a.tmps) = true := by simp [Region.wanted, hg]
  rw [if_pos hw]
  unfold Oper.wp
  simp [execOp, hop, hty, resolve, invoke, builtin, hm, hk, hr, Result.andThen]
  exact hK

theorem own_type {w : World} {B e z n : Nat} {v : Value} {xs : List Value} (h : w.ownsRow B e z v n xs) {b T : Nat} {c : Array Value} (hb : w.heap[b]? = some (.cells c T (0, 0))) (hT : T ≠ e) : v.ownBlock ≠ some b := by
  intro e1
  rcases h.2 with ⟨e2, _⟩ | ⟨g, cap, cur, e2, _, hg, _⟩
  · rw [e2] at e1; simp [Value.ownBlock] at e1
  · rw [e2] at e1
    simp [Value.ownBlock] at e1
    subst e1
    rw [hb] at hg
    simp at hg
    exact hT hg.2

theorem info23 : (Yba.prog.info? 23).map (fun i => (i.zero, i.size, i.bytes)) = some (some (.slice none 0 0), 1, 24) := by kernel_rfl

/-- What the hops strike. -/
def struck (H : List (Nat × List ByteArray)) (i : Nat) : List ByteArray := if 0 < i then H.flatMap (fun g => if g.1 = i then g.2 else []) else []
theorem struck_snoc (H : List (Nat × List ByteArray)) (g : Nat × List ByteArray) (q : Nat) : struck (H ++ [g]) q = struck H q ++ (if 0 < q ∧ q = g.1 then g.2 else []) := by
  unfold struck
  by_cases h : 0 < q
  · simp only [h, if_true, List.flatMap_append, List.flatMap_cons, List.flatMap_nil, List.append_nil, true_and, eq_comm]
  · simp [h]

theorem hop_names {r : ByteArray → Option Nat} {l : List ByteArray} {j : Nat} {h : Nat × List ByteArray} (hj : (hopsL r l)[j]? = some h) : h.2 ≠ [] ∧ h.2.length ≤ l.length ∧ ∀ x ∈ h.2, x ∈ l ∧ r x = some h.1 := (hopsL_in (r := r) l).1 h (List.mem_of_getElem? hj)

/-- What is left of the frames to the parent. -/
def UpOut (w : World) (B : Nat) (uv : Value) (U : List ByteArray) (ys : List Int) : Prop :=
  (U = [] ∧ uv = .slice none 0 0) ∨ (U ≠ [] ∧ ∃ fv, w.ownsRow B 23 1 uv 1 [fv] ∧ w.ownsRow B 5 1 fv ys.length (bc ys))

/-- What routeDecision leaves. -/
def RdOut (w w' : World) (e : Ending) (lb ob : Nat) (M : Nat → Nat) (s : ByteArray) (a b : Int) (ab : Bool) (st : Int) (S0 : List ByteArray) (H : List (Nat × List ByteArray)) (U : List ByteArray) : Prop :=
  ∃ (t : Bool) (lv uv : Value) (G : List G3), e = .returned (.bool t) ∧ (t = true ↔ 0 < U.length) ∧ LogS w' lb w.heap.size lv G ∧ G.map (fun g => (g.1, g.2.2)) = H.map (fun h => (h.1, decZ s a b h.2 ab st)) ∧ Vs w' M s a b S0 (struck H) ∧
    w'.heap[ob]? = some (onwO uv) ∧ UpOut w' w.heap.size uv U (decZ s a b U ab st) ∧ Fr w.heap.size (fun k => k = lb ∨ k = ob ∨ ∃ i, i < 3 ∧ k = M i) w w'

theorem dec_le (s : ByteArray) (a b : Int) (l : List ByteArray) (ab : Bool) (st : Int) (hs : s.size ≤ 1024) (hl : l.length ≤ 1024) (hz : ∀ x ∈ l, x.size ≤ 10) : (decZ s a b l ab st).length ≤ 1000000 := by
  have h1 := list_len hz
  have h2 := body_len s a b l ab st
  simp only [decZ, List.length_append, List.length_cons, beZ_length]
  omega
theorem dec_pos (s : ByteArray) (a b : Int) (l : List ByteArray) (ab : Bool) (st : Int) : 0 < (decZ s a b l ab st).length := by
  simp only [decZ, List.length_append, List.length_cons]
  omega

set_option maxHeartbeats 16000000 in
theorem rd_any (gv : Value) (ao : Option Addr) (cap : Nat) (l : List ByteArray) (fp ub : Bool) (r : ByteArray → Option Nat) (P X M : Nat → Nat) (lb ob : Nat) (s : ByteArray) (a b : Int) (ab : Bool) (st : Int) (S0 : List ByteArray) (w : World) (hlen : l.length ≤ 1024) (hs : s.size ≤ 1024)
    (ha0 : 0 ≤ a) (ha : a ≤ 18446744073709551615) (hb0 : 0 ≤ b) (hb : b ≤ 18446744073709551615) (h0 : 0 ≤ st) (h1 : st ≤ 18446744073709551615) (hz : ∀ x ∈ l, x.size ≤ 10)
    (hl : ∀ (j : Nat) (x : ByteArray), l[j]? = some x → ∃ g, ao = some ⟨g, 0, none⟩ ∧ g < w.heap.size ∧ w.cell? ⟨g, j, none⟩ = some (.string x))
    (hr0 : ∀ x ∈ l, r x = none → ∀ wx, Below w.heap.size w wx → Calls Yba.prog 30 #[gv, .string x, .bool fp] wx fun e w' => e = .returned (.tuple #[.pointer none, .bool ub]) ∧ w' = wx)
    (hr1 : ∀ x ∈ l, ∀ i, r x = some i → i < 3 ∧ ∀ wx, Below w.heap.size w wx → Calls Yba.prog 30 #[gv, .string x, .bool fp] wx fun e w' => e = .returned (.tuple #[.pointer (some ⟨P i, 0, none⟩), .bool false]) ∧ w' = wx)
    (hP : ∀ i j, i < 3 → j < 3 → P i = P j → i = j) (hM : ∀ i j, i < 3 → j < 3 → M i = M j → i = j)
    (hpe : ∀ i, i < 3 → PeerAt w (P i) (X i) (M i) lb i) (hlog : w.heap[lb]? = some (logO (.slice none 0 0))) (ho : w.heap[ob]? = some (onwO (.slice none 0 0))) (hv : Vs w M s a b S0 (fun _ => [])) :
    Calls Yba.prog 11 #[gv, .agg #[.string s, .int .u64 a, .int .u64 b, .slice ao l.length cap, .bool ab, .int .u64 st], .bool fp, .pointer (some ⟨ob, 0, none⟩)] w fun e w' => RdOut w w' e lb ob M s a b ab st S0 (hopsL r l) (upsL r ub l) := by
  obtain ⟨i0, hi, hz0, hz1, hz2⟩ := info_parts info9
  have hlt3 : Hid (∀ x ∈ l, ∀ i, r x = some i → i < 3) := fun x hx i hi => (hr1 x hx i hi).1
  have hbd : Below w.heap.size w (w.alloc (decO s a b (.slice ao l.length cap) ab st)) := (Below.refl _ w).alloc (Nat.le_refl _) _
  have hC := split_any gv ao cap l fp ub (fun x => (r x).map P) (w.alloc (decO s a b (.slice ao l.length cap) ab st)) hlen
    (fun j x hx => by
      obtain ⟨g, h1, h2, h3⟩ := hl j x hx
      exact ⟨g, h1, by simp; omega, Lib.cell?_alloc_some _ h3⟩)
    (fun x hx hn wx hw => hr0 x hx (by simpa using hn) wx (hbd.trans (hw.mono (by simp))))
    (fun x hx p hp => by
      obtain ⟨i, hi, rfl⟩ := Option.map_eq_some_iff.1 hp
      obtain ⟨hi3, hcall⟩ := hr1 x hx i hi
      refine ⟨?_, fun wx hw => hcall wx (hbd.trans (hw.mono (by simp)))⟩
      obtain ⟨c, hc, _⟩ := (hpe i hi3).link
      exact ⟨c, 71, blk_alloc hc⟩)
  rw [hopsL_map P l (fun x hx y hy a b ha hb => hP a b (hlt3.out x hx a ha) (hlt3.out y hy b hb)), upsL_map] at hC
  have HZ : Hid (∀ x ∈ l, x.size ≤ 10) := hz
  have HP : Hid (∀ i, i < 3 → PeerAt w (P i) (X i) (M i) lb i) := hpe
  have HM : Hid (∀ i j, i < 3 → j < 3 → M i = M j → i = j) := hM
  have HV : Hid (Vs w M s a b S0 (fun _ => [])) := hv
  have HLG : Hid (w.heap[lb]? = some (logO (.slice none 0 0))) := hlog
  have HO : Hid (w.heap[ob]? = some (onwO (.slice none 0 0))) := ho
  clear hl hr0 hr1 hP hM hpe hlog ho hv hz
  have en13 : ∀ args w, (callFunc 13 args).run Yba.prog w = .ok (.enter 13 args) w := enters_of Yba.func13 (by kernel_rfl) rfl
  have en22 : ∀ args w, (callFunc 22 args).run Yba.prog w = .ok (.enter 22 args) w := enters_of Yba.func22 (by kernel_rfl) rfl
  go_enter Yba.func11, Yba.ntmps11
  go_wp2_with fail
  refine hC.mono ?_
  rintro e w1 ⟨hv, uv, av, T, A, rfl, hS, hT, hb1⟩
  clear hC hbd
  have hs1 : w.heap.size + 1 ≤ w1.heap.size := by have := hb1.size; simp at this; omega
  have HB1 : Hid (Below (w.heap.size + 1) (w.alloc (decO s a b (.slice ao l.length cap) ab st)) w1) := ⟨hb1.os, hb1.tape, hb1.output, by simpa using hb1.size, fun k hk => hb1.block k (by simp; omega)⟩
  have HB0 : Hid (Below w.heap.size w w1) := ((Below.refl _ w).alloc (Nat.le_refl _) _).trans (HB1.out.mono (by omega))
  have HS : Hid (Sp 153 1 preP (w.heap.size + 1) w1 hv uv av T (upsL r ub l) A) := hid (by simpa using hS)
  have HT : Hid (hopsT T = (hopsL r l).map fun g => (P g.1, g.2)) := hT
  have hTl : T.length = (hopsL r l).length := by
    have := congrArg List.length hT
    simpa [hopsT] using this
  have HTL : Hid (T.length = (hopsL r l).length) := hTl
  have hHl : T.length ≤ 1024 := by rw [hTl]; exact Nat.le_trans (hopsL_len l) hlen
  clear hTl
  have HST : Hid (St w1 w1 lb ob w.heap.size M s a b ab st S0 (.slice ao l.length cap) (.slice none 0 0) (.slice none 0 0) [] (struck [])) :=
    ⟨Fr.refl _ _ _, ⟨by rw [HB0.out.block _ (blk_lt HLG.out)]; exact HLG.out, World.ownsRow_nil _ _ _ _, fun g hg => by simp at hg⟩, (HV.out.fr (Fr.of_below HB0.out) (x := fun _ => False) (fun _ _ h => h)).same (fun i _ y => by simp [struck]), by
      rw [HB1.out.block _ (by omega)]; exact heap_alloc_new w _, by rw [HB0.out.block _ (blk_lt HO.out)]; exact HO.out, by have := blk_lt HLG.out; omega, by have := blk_lt HO.out; omega, by omega, fun i hi => by have := HV.out.lt hi; omega⟩
  have HPE : Hid (∀ i, i < 3 → PeerAt w1 (P i) (X i) (M i) lb i) := fun i hi => by
    obtain ⟨c, hc, _⟩ := (HP.out i hi).link
    exact (HP.out i hi).fr (Fr.of_below (x := fun _ => False) HB0.out) (blk_lt hc) (blk_lt (HP.out i hi).box) (fun h => h) (fun h => h)
  obtain ⟨aoh, caph, hhv⟩ := owns_shape HS.out.own
  obtain ⟨aou, capu, huv⟩ := owns_shape HS.out.ownU
  subst hhv huv
  clear hS hT hb1
  go_wp2
  go_loopg [13, 15, 27] T.length (fun gg _ _ s27 wr => ∃ (j : Nat) (dv lv : Value) (G : List G3), j ≤ T.length ∧ T.length - j ≤ gg ∧ s27 = .int .i64 j ∧ Hid (St w1 wr lb ob w.heap.size M s a b ab st S0 dv (.slice none 0 0) lv G (struck ((hopsL r l).take j))) ∧ Hid (G.map (fun g => (g.1, g.2.2)) = ((hopsL r l).take j).map (fun h => (h.1, decZ s a b h.2 ab st))))
  case atStart => exact ⟨0, _, _, [], Nat.zero_le _, by omega, rfl, HST, hid (by simp)⟩
  case round =>
    obtain ⟨j, dv, lv, G, hj, hgg, rfl, hSt, hG⟩ := hrel
    by_cases hlt : j < T.length
    · have hltz : (j : Int) < (T.length : Int) := by omega
      obtain ⟨h, hjh⟩ : ∃ h, (hopsL r l)[j]? = some h := ⟨_, List.getElem?_eq_getElem (by rw [← HTL.out]; exact hlt)⟩
      obtain ⟨t, hjt⟩ : ∃ t, T[j]? = some t := ⟨_, List.getElem?_eq_getElem hlt⟩
      obtain ⟨i, nm⟩ := h
      have ht : t = (P i, t.2.1, nm) := by
        have e1 := congrArg (fun q => q[j]?) HT.out
        simp only [hopsT, List.getElem?_map, hjt, hjh, Option.map_some, Option.some.injEq, Prod.mk.injEq] at e1
        obtain ⟨t1, t2, t3⟩ := t
        simp at e1
        simp [e1]
      obtain ⟨t1, nv, t3⟩ := t
      simp at ht
      obtain ⟨ht1, ht3⟩ := ht
      have ht3 := ht3.symm
      subst ht1 ht3
      have HJ : Hid ((hopsL r l)[j]? = some (i, nm)) := hjh
      obtain ⟨hn0, hnl, hnx⟩ := hop_names hjh
      have hi3 : i < 3 := by
        obtain ⟨y, hy⟩ := List.exists_mem_of_ne_nil _ hn0
        exact hlt3.out y (hnx y hy).1 i (hnx y hy).2
      have hn0 : 0 < nm.length := List.length_pos_iff.2 hn0
      have hnz : Hid (∀ x ∈ nm, x.size ≤ 10) := fun x hx => HZ.out x (hnx x hx).1
      have hnl : nm.length ≤ 1024 := by simp at hnl; omega
      obtain ⟨g6, cap6, e6, _, hg6, _, c6, _, c6', cur6, hb6⟩ := HS.out.valAt (fun _ => rfl) hjt
      simp at e6
      obtain ⟨rfl, rfl⟩ := e6
      obtain ⟨gn, capn, en, _, hgn, _, _, cn, curn, hbn⟩ := owns_row (HS.out.ownN hjt) hn0
      simp only at en
      subst en
      have HN : Hid (∀ k y, nm[k]? = some y → w1.cell? ⟨gn, k, none⟩ = some (.string y)) := fun k y hk => cn k _ (by simp [hk])
      have keep : ∀ {wx : World} {dv lv : Value} {G : List G3} {D : Nat → List ByteArray}, St w1 wx lb ob w.heap.size M s a b ab st S0 dv (.slice none 0 0) lv G D → ∀ {k T : Nat} {c : Array Value}, w1.heap[k]? = some (.cells c T (0, 0)) → T ≠ 33 → T ≠ 116 → T ≠ 119 → wx.heap[k]? = w1.heap[k]? := fun hx k T c hk h1 h2 h3 => hx.fr.block k (blk_lt hk) (HST.out.apart hk h1 h2 h3)
      have KEEP : Hid (∀ {wx : World} {dv lv : Value} {G : List G3} {D : Nat → List ByteArray}, St w1 wx lb ob w.heap.size M s a b ab st S0 dv (.slice none 0 0) lv G D → ∀ {k T : Nat} {c : Array Value}, w1.heap[k]? = some (.cells c T (0, 0)) → T ≠ 33 → T ≠ 116 → T ≠ 119 → wx.heap[k]? = w1.heap[k]?) := keep
      clear keep
      have d0 : wr.cell? ⟨g6, j * 2, none⟩ = some (.pointer (some ⟨P i, 0, none⟩)) := by
        rw [World.cell?_of_block (a := ⟨g6, j * 2, none⟩) (KEEP.out hSt.out hb6 (by decide) (by decide) (by decide))]
        have := c6' 0 (by omega)
        simpa [preP] using this
      have d1 : wr.cell? ⟨g6, j * 2 + 1, none⟩ = some (.slice (some ⟨gn, 0, none⟩) nm.length capn) := by
        rw [World.cell?_of_block (a := ⟨g6, j * 2 + 1, none⟩) (KEEP.out hSt.out hb6 (by decide) (by decide) (by decide))]
        exact c6
      have cd := cellLit (blk_alloc (o' := .cells #[.pointer (some ⟨P i, 0, none⟩), .slice (some ⟨gn, 0, none⟩) nm.length capn] 153 (0, 0)) hSt.out.d) 3
      have fd := blk_free (blk_alloc (o' := .cells #[.pointer (some ⟨P i, 0, none⟩), .slice (some ⟨gn, 0, none⟩) nm.length capn] 153 (0, 0)) hSt.out.d) 3
      simp at cd
      obtain ⟨cp, hcp, p11, p13, p18⟩ := (HPE.out i hi3).link
      obtain ⟨W, hW⟩ : ∃ W, W = (wr.alloc (.cells #[.pointer (some ⟨P i, 0, none⟩), .slice (some ⟨gn, 0, none⟩) nm.length capn] 153)).setCell ⟨w.heap.size, 3, none⟩ (.slice (some ⟨gn, 0, none⟩) nm.length capn) := ⟨_, rfl⟩
      have HW : Hid (St w1 W lb ob w.heap.size M s a b ab st S0 (.slice (some ⟨gn, 0, none⟩) nm.length capn) (.slice none 0 0) lv G (struck ((hopsL r l).take j))) := hW ▸ (hSt.out.alloc _).setTo _
      have HH : Hid (W.heap[wr.heap.size]? = some (.cells #[.pointer (some ⟨P i, 0, none⟩), .slice (some ⟨gn, 0, none⟩) nm.length capn] 153 (0, 0))) := by
        have := hSt.out.size
        rw [hW, blk_set_other (by show wr.heap.size ≠ w.heap.size; omega)]
        exact heap_alloc_new wr _
      have hwp : W.heap[P i]? = some (.cells cp 71 (0, 0)) := by rw [KEEP.out HW.out hcp (by decide) (by decide) (by decide)]; exact hcp
      have q11 : W.cell? ⟨P i, 11, none⟩ = some (.bool (decide (0 < i))) := by rw [blk_cell hwp]; exact p11
      have q0 : W.cell? ⟨wr.heap.size, 0, none⟩ = some (.pointer (some ⟨P i, 0, none⟩)) := by rw [blk_cell HH.out]; rfl
      rw [hW] at q11 q0
      clear hjh hjt hnx c6 c6' hb6 cn
      go_upto_if 38 with fail
      rw [← hW]
      have hwl : w1.heap.size ≤ wr.heap.size := hSt.out.size
      have hWl : wr.heap.size < W.heap.size := blk_lt HH.out
      clear hW hwp q11 q0 d0 d1 cd fd hSt
      generalize hvE : wr.heap.size = hvb at HH hwl hWl ⊢
      clear hvE
      go_cut [15] (fun _ wx => Hid (St w1 wx lb ob w.heap.size M s a b ab st S0 (.slice (some ⟨gn, 0, none⟩) nm.length capn) (.slice none 0 0) lv G (struck ((hopsL r l).take (j + 1)))) ∧ Hid (wx.heap[hvb]? = some (.cells #[.pointer (some ⟨P i, 0, none⟩), .slice (some ⟨gn, 0, none⟩) nm.length capn] 153 (0, 0))))
      case first =>
        by_cases hlk : 0 < i
        · have cH1 : W.cell? ⟨hvb, 1, none⟩ = some (.slice (some ⟨gn, 0, none⟩) nm.length capn) := by rw [blk_cell HH.out]; rfl
          go_wp2
          clear cH1
          go_loopg [15, 42] nm.length (fun gg _ s42 wp => ∃ m : Nat, m ≤ nm.length ∧ nm.length - m ≤ gg ∧ s42 = .int .i64 m ∧ Hid (St w1 wp lb ob w.heap.size M s a b ab st S0 (.slice (some ⟨gn, 0, none⟩) nm.length capn) (.slice none 0 0) lv G (fun q => struck ((hopsL r l).take j) q ++ if q = i then nm.take m else [])) ∧ Hid (wp.heap[hvb]? = some (.cells #[.pointer (some ⟨P i, 0, none⟩), .slice (some ⟨gn, 0, none⟩) nm.length capn] 153 (0, 0))))
          case atStart => exact ⟨0, Nat.zero_le _, by omega, rfl, hid ({ HW.out with vs := HW.out.vs.same (fun q _ y => by simp) }), HH⟩
          case round =>
            obtain ⟨m, hm, hgg2, rfl, hS2, hH2⟩ := hrel
            by_cases hmlt : m < nm.length
            · have hmz : (m : Int) < (nm.length : Int) := by omega
              obtain ⟨y, hmy⟩ : ∃ y, nm[m]? = some y := ⟨_, List.getElem?_eq_getElem hmlt⟩
              have HY : Hid (nm[m]? = some y) := hmy
              have e0 : wr.cell? ⟨gn, m, none⟩ = some (.string y) := by
                rw [World.cell?_of_block (a := ⟨gn, m, none⟩) (KEEP.out hS2.out hbn (by decide) (by decide) (by decide))]
                exact HN.out m y hmy
              clear hmy
              have hwp : wr.heap[P i]? = some (.cells cp 71 (0, 0)) := by rw [KEEP.out hS2.out hcp (by decide) (by decide) (by decide)]; exact hcp
              have hI : Hid (wr.heap[hvb]? = some (.cells #[.pointer (some ⟨P i, 0, none⟩), .slice (some ⟨gn, 0, none⟩) nm.length capn] 153 (0, 0)) ∧ wr.heap[P i]? = some (.cells cp 71 (0, 0)) ∧ wr.heap[w.heap.size]? = some (decO s a b (.slice (some ⟨gn, 0, none⟩) nm.length capn) ab st)) := ⟨hH2.out, hwp, hS2.out.d⟩
              go_wp2_with fail
              refine wp_region_any (by kernel_rfl) (anyI.any (L := 99) (I := fun w' => w'.heap[hvb]? = some (.cells #[.pointer (some ⟨P i, 0, none⟩), .slice (some ⟨gn, 0, none⟩) nm.length capn] 153 (0, 0)) ∧ w'.heap[P i]? = some (.cells cp 71 (0, 0)) ∧ w'.heap[w.heap.size]? = some (decO s a b (.slice (some ⟨gn, 0, none⟩) nm.length capn) ab st)) ?_)
              generalize hwd : ({ heap := wr.heap, tape := wr.tape, drawn := wr.drawn + 1, os := wr.os, output := wr.output } : World) = wd
              have hfd : Fr wr.heap.size (fun _ => False) wr wd := by subst hwd; exact ⟨rfl, rfl, rfl, Nat.le_refl _, fun _ _ _ => rfl⟩
              have hvd : Vs wd M s a b S0 (fun q => struck ((hopsL r l).take j) q ++ if q = i then nm.take m else []) := hS2.out.vs.fr hfd (fun _ _ h => h)
              obtain ⟨w3, hrun, hvs, hgw⟩ := hvd.strike HM.out hi3 y 0
              have HVS : Hid (Vs w3 M s a b S0 _) := hvs
              simp only [kv] at hrun
              have HG3 : Hid (wr.grownBy w3 (some (M i))) := by subst hwd; exact ⟨hgw.os, hgw.tape, hgw.output, hgw.size, hgw.block⟩
              have hId : Hid (wd.heap[hvb]? = some (.cells #[.pointer (some ⟨P i, 0, none⟩), .slice (some ⟨gn, 0, none⟩) nm.length capn] 153 (0, 0)) ∧ wd.heap[P i]? = some (.cells cp 71 (0, 0)) ∧ wd.heap[w.heap.size]? = some (decO s a b (.slice (some ⟨gn, 0, none⟩) nm.length capn) ab st)) := by subst hwd; exact hI
              have hI3 : w3.heap[hvb]? = some (.cells #[.pointer (some ⟨P i, 0, none⟩), .slice (some ⟨gn, 0, none⟩) nm.length capn] 153 (0, 0)) ∧ w3.heap[P i]? = some (.cells cp 71 (0, 0)) ∧ w3.heap[w.heap.size]? = some (decO s a b (.slice (some ⟨gn, 0, none⟩) nm.length capn) ab st) :=
                ⟨by rw [HG3.out.block _ (blk_lt hI.out.1) (fun e => hS2.out.vs.ne hi3 hI.out.1 (Option.some.inj e))]; exact hI.out.1, by rw [HG3.out.block _ (blk_lt hI.out.2.1) (fun e => hS2.out.vs.ne hi3 hI.out.2.1 (Option.some.inj e))]; exact hI.out.2.1, by rw [HG3.out.block _ (blk_lt hI.out.2.2) (fun e => hS2.out.vs.ne hi3 hI.out.2.2 (Option.some.inj e))]; exact hI.out.2.2⟩
              clear hvs hgw hvd hfd hwd
              refine takeI (i := 0) (v := .pointer (some ⟨hvb, 0, none⟩)) rfl (by kernel_rfl) (by kernel_rfl) (by kernel_rfl) (by kernel_rfl) (fun _ _ _ h => h) hId.out ⟨by rfl, fun w' h => by go_simp⟩ ?_
              refine takeI (i := 1) (v := .pointer (some ⟨P i, 0, none⟩)) rfl (by kernel_rfl) (by kernel_rfl) (by kernel_rfl) (by kernel_rfl) (fun _ _ _ h => h) hId.out ⟨by rfl, fun w' h => by have c0 := cellLit h.1 0; have c1 := cellLit h.1 1; simp at c0 c1; go_simp⟩ ?_
              refine takeI (i := 2) (v := .pointer (some ⟨P i, 0, none⟩)) rfl (by kernel_rfl) (by kernel_rfl) (by kernel_rfl) (by kernel_rfl) (fun _ _ _ h => h) hId.out ⟨by rfl, fun w' h => by go_simp⟩ ?_
              refine takeI (i := 3) (v := .pointer (some ⟨P i, 18, none⟩)) rfl (by kernel_rfl) (by kernel_rfl) (by kernel_rfl) (by kernel_rfl) (fun _ _ _ h => h) hId.out ⟨by rfl, fun w' h => by go_simp⟩ ?_
              refine takeI (i := 4) (v := .pointer (some ⟨P i, 18, none⟩)) rfl (by kernel_rfl) (by kernel_rfl) (by kernel_rfl) (by kernel_rfl) (fun _ _ _ h => h) hId.out ⟨by rfl, fun w' h => by go_simp⟩ ?_
              refine takeI (i := 5) (v := .map (some (M i))) rfl (by kernel_rfl) (by kernel_rfl) (by kernel_rfl) (by kernel_rfl) (fun _ _ _ h => h) hId.out ⟨by rfl, fun w' h => by have c0 := (blk_cell h.2.1 18).trans p18; go_simp⟩ ?_
              refine takeI (i := 6) (v := .pointer (some ⟨w.heap.size, 0, none⟩)) rfl (by kernel_rfl) (by kernel_rfl) (by kernel_rfl) (by kernel_rfl) (fun _ _ _ h => h) hId.out ⟨by rfl, fun w' h => by go_simp⟩ ?_
              refine takeI (i := 7) (v := .agg #[.string s, .int .u64 a, .int .u64 b]) rfl (by kernel_rfl) (by kernel_rfl) (by kernel_rfl) (by kernel_rfl) (fun _ _ _ h => h) hId.out ⟨by rfl, fun w' h => by have c0 := cellLit h.2.2 0; have c1 := cellLit h.2.2 1; have c2 := cellLit h.2.2 2; simp at c0 c1 c2; go_simp⟩ ?_
              refine takeI (i := 8) (v := .string y) rfl (by kernel_rfl) (by kernel_rfl) (by kernel_rfl) (by kernel_rfl) (fun _ _ _ h => h) hId.out ⟨by rfl, fun w' h => by go_simp⟩ ?_
              refine takeI (i := 9) (v := .agg #[.string s, .int .u64 a, .int .u64 b, .string y]) rfl (by kernel_rfl) (by kernel_rfl) (by kernel_rfl) (by kernel_rfl) (fun _ _ _ h => h) hId.out ⟨by rfl, fun w' h => by go_simp⟩ ?_
              refine oneI (i := 10) rfl (by kernel_rfl) (fun K hK => ?_)
              refine step_delete rfl (.tmp 51) (.tmp 55) 51 76 rfl 0 rfl (.map (some (M i))) (.agg #[.string s, .int .u64 a, .int .u64 b, .string y]) (by go_simp) (by go_simp) hrun ?_
              refine hK _ _ (fun _ => hI3) ?_
              clear hK K
              refine doneI (by kernel_rfl) ?_ _
              have hS3 := hS2.out.strike hi3 HVS.out HG3.out
              have HS3 : Hid (St w1 w3 lb ob w.heap.size M s a b ab st S0 (.slice (some ⟨gn, 0, none⟩) nm.length capn) (.slice none 0 0) lv G (fun q => struck ((hopsL r l).take j) q ++ if q = i then nm.take (m + 1) else [])) := hid ({ hS3 with vs := hS3.vs.same (fun q _ z => by
                rw [List.take_add_one, HY.out]
                by_cases e : q = i
                · subst e; simp
                · simp [e]) })
              have HH3 : Hid (w3.heap[hvb]? = some (.cells #[.pointer (some ⟨P i, 0, none⟩), .slice (some ⟨gn, 0, none⟩) nm.length capn] 153 (0, 0))) := hI3.1
              clear hS3 hI3 hrun HVS HG3 hwp hI hId e0 hS2 hH2
              go_wp2
              go_roundg (nm.length - (m + 1))
              case measure => omega
              case rel => exact ⟨m + 1, by omega, Nat.le_refl _, rfl, HS3, HH3⟩
            · have hmz : ¬ ((m : Int) < (nm.length : Int)) := by omega
              obtain rfl : m = nm.length := by omega
              go_wp2
              go_meet
              refine ⟨hid ({ hS2.out with vs := hS2.out.vs.same (fun q _ y => ?_) }), hH2⟩
              rw [List.take_add_one, HJ.out]
              simp only [Option.toList_some, struck_snoc, List.take_length]
              by_cases e : q = i
              · subst e; simp [hlk]
              · simp [e]
        · go_wp2
          go_meet
          refine ⟨hid ({ HW.out with vs := HW.out.vs.same (fun q _ y => ?_) }), HH⟩
          rw [List.take_add_one, HJ.out]
          simp only [Option.toList_some, struck_snoc]
          by_cases e : q = i
          · subst e; simp [hlk]
          · simp [e]
      case rest =>
        obtain ⟨hSt, hHp⟩ := hcut
        obtain ⟨wp, hwp⟩ : ∃ wp, wp = wc := ⟨_, rfl⟩
        subst hwp
        have HGL : Hid (G.length = j) := by
          have := congrArg List.length hG.out
          simp at this
          rw [← HTL.out] at this
          exact hid (by omega)
        clear HW HH
        go_wp2_with fail
        refine wp_region_any (by kernel_rfl) (anyI.any (L := 99) (I := fun w' => w'.heap[hvb]? = some (.cells #[.pointer (some ⟨P i, 0, none⟩), .slice (some ⟨gn, 0, none⟩) nm.length capn] 153 (0, 0)) ∧ w'.heap[w.heap.size]? = some (decO s a b (.slice (some ⟨gn, 0, none⟩) nm.length capn) ab st)) ?_)
        generalize hwd : ({ heap := wp.heap, tape := wp.tape, drawn := wp.drawn + 1, os := wp.os, output := wp.output } : World) = wd
        have hfd : Fr wp.heap.size (fun _ => False) wp wd := by subst hwd; exact ⟨rfl, rfl, rfl, Nat.le_refl _, fun _ _ _ => rfl⟩
        have hSd : Hid (St w1 wd lb ob w.heap.size M s a b ab st S0 (.slice (some ⟨gn, 0, none⟩) nm.length capn) (.slice none 0 0) lv G (struck ((hopsL r l).take (j + 1)))) := hSt.out.quiet hfd
        have hI : Hid (wd.heap[hvb]? = some (.cells #[.pointer (some ⟨P i, 0, none⟩), .slice (some ⟨gn, 0, none⟩) nm.length capn] 153 (0, 0)) ∧ wd.heap[w.heap.size]? = some (decO s a b (.slice (some ⟨gn, 0, none⟩) nm.length capn) ab st)) := ⟨by rw [hfd.block _ (blk_lt hHp.out) (fun h => h)]; exact hHp.out, hSd.out.d⟩
        have hcd : Hid (∀ (k : Nat) (y : ByteArray), nm[k]? = some y → wd.cell? ⟨gn, k, none⟩ = some (.string y)) := fun k y hk => by
          rw [World.cell?_of_block (a := ⟨gn, k, none⟩) (KEEP.out hSd.out hbn (by decide) (by decide) (by decide))]
          exact HN.out k y hk
        have hgd : gn < wd.heap.size := by have := hSd.out.size; omega
        clear hwd hfd hSt hHp
        refine takeI (i := 0) (v := gv) rfl (by kernel_rfl) (by kernel_rfl) (by kernel_rfl) (by kernel_rfl) (fun _ _ _ h => h) hI.out ⟨by rfl, fun w' h => by go_simp⟩ ?_
        refine takeI (i := 1) (v := .pointer (some ⟨hvb, 0, none⟩)) rfl (by kernel_rfl) (by kernel_rfl) (by kernel_rfl) (by kernel_rfl) (fun _ _ _ h => h) hI.out ⟨by rfl, fun w' h => by go_simp⟩ ?_
        refine takeI (i := 2) (v := .pointer (some ⟨P i, 0, none⟩)) rfl (by kernel_rfl) (by kernel_rfl) (by kernel_rfl) (by kernel_rfl) (fun _ _ _ h => h) hI.out ⟨by rfl, fun w' h => by have c0 := cellLit h.1 0; have c1 := cellLit h.1 1; simp at c0 c1; go_simp⟩ ?_
        refine takeI (i := 3) (v := .agg #[.string s, .int .u64 a, .int .u64 b, .slice (some ⟨gn, 0, none⟩) nm.length capn, .bool ab, .int .u64 st]) rfl (by kernel_rfl) (by kernel_rfl) (by kernel_rfl) (by kernel_rfl) (fun _ _ _ h => h) hI.out ⟨by rfl, fun w' h => by have c0 := cellLit h.2 0; have c1 := cellLit h.2 1; have c2 := cellLit h.2 2; have c3 := cellLit h.2 3; have c4 := cellLit h.2 4; have c5 := cellLit h.2 5; simp at c0 c1 c2 c3 c4 c5; go_simp⟩ ?_
        refine takeI (i := 5) (v := .pointer (some ⟨w.heap.size, 0, none⟩)) rfl (by kernel_rfl) (by kernel_rfl) (by kernel_rfl) (by kernel_rfl) (fun _ _ _ h => h) hI.out ⟨by rfl, fun w' h => by go_simp⟩ ?_
        refine takeI (i := 6) (v := .pointer (some ⟨w.heap.size, 0, none⟩)) rfl (by kernel_rfl) (by kernel_rfl) (by kernel_rfl) (by kernel_rfl) (fun _ _ _ h => h) hI.out ⟨by rfl, fun w' h => by go_simp⟩ ?_
        refine takeI (i := 7) (v := .string s) rfl (by kernel_rfl) (by kernel_rfl) (by kernel_rfl) (by kernel_rfl) (fun _ _ _ h => h) hI.out ⟨by rfl, fun w' h => by have c0 := cellLit h.2 0; have c1 := cellLit h.2 1; have c2 := cellLit h.2 2; have c3 := cellLit h.2 3; have c4 := cellLit h.2 4; have c5 := cellLit h.2 5; simp at c0 c1 c2 c3 c4 c5; go_simp⟩ ?_
        refine takeI (i := 8) (v := .pointer (some ⟨ob, 0, none⟩)) rfl (by kernel_rfl) (by kernel_rfl) (by kernel_rfl) (by kernel_rfl) (fun _ _ _ h => h) hI.out ⟨by rfl, fun w' h => by go_simp⟩ ?_
        refine oneI (i := 4) rfl (by kernel_rfl) (fun K hK => ?_)
        refine step_call rfl 13 _ _ rfl #[.agg #[.string s, .int .u64 a, .int .u64 b, .slice (some ⟨gn, 0, none⟩) nm.length capn, .bool ab, .int .u64 st]] (by go_simp) (en13 _ _) (dec_any s a b gn capn nm ab st ha0 ha hb0 hb h0 h1 _ (by omega) hnl hnz.out hgd hcd.out) ?_
        rintro e w2 ⟨v2, rfl, hown2, hb2⟩
        have hS2 : Hid (St w1 w2 lb ob w.heap.size M s a b ab st S0 (.slice (some ⟨gn, 0, none⟩) nm.length capn) (.slice none 0 0) lv G (struck ((hopsL r l).take (j + 1)))) := hSd.out.below hb2
        have hI2 : Hid (w2.heap[hvb]? = some (.cells #[.pointer (some ⟨P i, 0, none⟩), .slice (some ⟨gn, 0, none⟩) nm.length capn] 153 (0, 0)) ∧ w2.heap[w.heap.size]? = some (decO s a b (.slice (some ⟨gn, 0, none⟩) nm.length capn) ab st)) := ⟨by rw [hb2.block _ (blk_lt hI.out.1)]; exact hI.out.1, hS2.out.d⟩
        refine ⟨v2, rfl, hK _ _ (fun _ => hI2.out) ?_⟩
        clear hK K hb2 hSd hI hcd
        obtain ⟨g2, cap2, hv2, _, hg2, _, _, hc2, _⟩ := owns_row hown2 (dec_pos s a b nm ab st)
        subst hv2
        have HC2 : Hid (∀ k u, (bc (decZ s a b nm ab st))[k]? = some u → w2.cell? ⟨g2, k, none⟩ = some u) := hc2
        clear hc2 hown2
        have hp2 : w2.heap[P i]? = some (.cells cp 71 (0, 0)) := by rw [KEEP.out hS2.out hcp (by decide) (by decide) (by decide)]; exact hcp
        have hx2 : w2.heap[X i]? = some (boxO i lb) := by rw [KEEP.out hS2.out (HPE.out i hi3).box (by decide) (by decide) (by decide)]; exact (HPE.out i hi3).box
        refine oneI (i := 9) rfl (by kernel_rfl) (fun K hK => ?_)
        refine step_call rfl 22 _ _ rfl #[gv, .pointer (some ⟨P i, 0, none⟩), .slice (some ⟨g2, 0, none⟩) (decZ s a b nm ab st).length cap2, .string s, .pointer (some ⟨ob, 0, none⟩)] (by go_simp) (en22 _ _)
          (queue_any gv (.pointer (some ⟨ob, 0, none⟩)) (P i) (X i) lb w1.heap.size G.length g2 (decZ s a b nm ab st).length cap2 s i lv (flatG G) (decZ s a b nm ab st) _ (by rw [blk_cell hp2]; exact p13) hx2 hS2.out.log.blk hS2.out.log.own (by rw [HGL.out]; omega) hS2.out.size hS2.out.llt (blk_lt (HPE.out i hi3).box) rfl (dec_pos s a b nm ab st) (dec_le s a b nm ab st hs hnl hnz.out) hg2 HC2.out) ?_
        rintro e w3 ⟨rfl, hO⟩
        obtain ⟨lv', cv, hS3⟩ := hS2.out.queue hO
        have hI3 : w3.heap[hvb]? = some (.cells #[.pointer (some ⟨P i, 0, none⟩), .slice (some ⟨gn, 0, none⟩) nm.length capn] 153 (0, 0)) ∧ w3.heap[w.heap.size]? = some (decO s a b (.slice (some ⟨gn, 0, none⟩) nm.length capn) ab st) := by
          refine ⟨?_, hS3.d⟩
          obtain ⟨_, _, _, _, _, h4⟩ := hO
          rw [h4.block _ (blk_lt hI2.out.1) ?_]
          · exact hI2.out.1
          · rintro (e | e)
            · have := hS2.out.llt; omega
            · exact own_type hS2.out.log.own hI2.out.1 (by decide) e
        have HS3 : Hid (St w1 w3 lb ob w.heap.size M s a b ab st S0 (.slice (some ⟨gn, 0, none⟩) nm.length capn) (.slice none 0 0) lv' (G ++ [(i, cv, decZ s a b nm ab st)]) (struck ((hopsL r l).take (j + 1)))) := hS3
        refine ⟨_, rfl, hK _ _ (fun _ => hI3) ?_⟩
        clear hK K hO hS3 hI3 hS2 hI2 HC2 hp2 hx2
        refine doneI (by kernel_rfl) ?_ _
        go_wp2
        go_roundg (T.length - (j + 1))
        case measure => omega
        case rel => exact ⟨j + 1, _, lv', _, by omega, Nat.le_refl _, rfl, HS3, hid (by rw [List.take_add_one, HJ.out]; simp [hG.out])⟩
    · have hge : ¬ ((j : Int) < (T.length : Int)) := by omega
      obtain rfl : j = T.length := by omega
      have hSt1 : Hid (St w1 wr lb ob w.heap.size M s a b ab st S0 dv (.slice none 0 0) lv G (struck (hopsL r l))) := by
        have := hSt.out
        rw [HTL.out, List.take_length] at this
        exact this
      have hG1 : Hid (G.map (fun g => (g.1, g.2.2)) = (hopsL r l).map (fun h => (h.1, decZ s a b h.2 ab st))) := by
        have := hG.out
        rw [HTL.out, List.take_length] at this
        exact this
      clear hSt hG
      go_upto_if 70 with fail
      go_cut [71] (fun _ wx => ∃ dv' uv', Hid (St w1 wx lb ob w.heap.size M s a b ab st S0 dv' uv' lv G (struck (hopsL r l))) ∧ Hid (UpOut wx w.heap.size uv' (upsL r ub l) (decZ s a b (upsL r ub l) ab st)))
      case first =>
        by_cases hU : 0 < (upsL r ub l).length
        · obtain ⟨gu, capu', eu, _, hgu, _, _, cu, curu, hbu⟩ := owns_row HS.out.ownU hU
          simp at eu
          obtain ⟨rfl, rfl⟩ := eu
          have HU : Hid (∀ (k : Nat) (y : ByteArray), (upsL r ub l)[k]? = some y → w1.cell? ⟨gu, k, none⟩ = some (.string y)) := fun k y hk => cu k _ (by simp [hk])
          have HUZ : Hid (∀ x ∈ upsL r ub l, x.size ≤ 10) := fun x hx => HZ.out x (ups_mem ub l hx)
          have hUl : (upsL r ub l).length ≤ 1024 := Nat.le_trans (ups_len ub l) hlen
          have cd := cellLit hSt1.out.d 3
          have fd := blk_free hSt1.out.d 3
          simp at cd
          clear cu
          obtain ⟨j0, hj0, hy0, hy1, hy2⟩ := info_parts info23
          go_wp2_with fail
          refine wp_region_any (by kernel_rfl) (anyI.any (L := 11) (I := fun w' => w'.heap[w.heap.size]? = some (decO s a b (.slice (some ⟨gu, 0, none⟩) (upsL r ub l).length capu) ab st) ∧ w'.heap[ob]? = some (onwO (.slice none 0 0))) ?_)
          generalize hW5 : wr.setCell ⟨w.heap.size, 3, none⟩ (.slice (some ⟨gu, 0, none⟩) (upsL r ub l).length capu) = W5
          generalize hwd : ({ heap := W5.heap, tape := W5.tape, drawn := W5.drawn + 1, os := W5.os, output := W5.output } : World) = wd
          have hS5 : St w1 W5 lb ob w.heap.size M s a b ab st S0 (.slice (some ⟨gu, 0, none⟩) (upsL r ub l).length capu) (.slice none 0 0) lv G (struck (hopsL r l)) := hW5 ▸ hSt1.out.setTo _
          have hfd : Fr W5.heap.size (fun _ => False) W5 wd := by subst hwd; exact ⟨rfl, rfl, rfl, Nat.le_refl _, fun _ _ _ => rfl⟩
          have hSd : Hid (St w1 wd lb ob w.heap.size M s a b ab st S0 (.slice (some ⟨gu, 0, none⟩) (upsL r ub l).length capu) (.slice none 0 0) lv G (struck (hopsL r l))) := hS5.quiet hfd
          have hI : Hid (wd.heap[w.heap.size]? = some (decO s a b (.slice (some ⟨gu, 0, none⟩) (upsL r ub l).length capu) ab st) ∧ wd.heap[ob]? = some (onwO (.slice none 0 0))) := ⟨hSd.out.d, hSd.out.o⟩
          have hcd : Hid (∀ (k : Nat) (y : ByteArray), (upsL r ub l)[k]? = some y → wd.cell? ⟨gu, k, none⟩ = some (.string y)) := fun k y hk => by
            rw [World.cell?_of_block (a := ⟨gu, k, none⟩) (hSd.out.fr.block gu (blk_lt hbu) (HST.out.apart hbu (by decide) (by decide) (by decide)))]
            exact HU.out k y hk
          have hgd : gu < wd.heap.size := by have := hSd.out.size; omega
          clear hwd hfd hS5 hW5 hSt1 cd fd
          refine takeI (i := 0) (v := .pointer (some ⟨ob, 0, none⟩)) rfl (by kernel_rfl) (by kernel_rfl) (by kernel_rfl) (by kernel_rfl) (fun _ _ _ h => h) hI.out ⟨by rfl, fun w' h => by go_simp⟩ ?_
          refine takeI (i := 1) (v := .pointer (some ⟨ob, 0, none⟩)) rfl (by kernel_rfl) (by kernel_rfl) (by kernel_rfl) (by kernel_rfl) (fun _ _ _ h => h) hI.out ⟨by rfl, fun w' h => by go_simp⟩ ?_
          refine takeI (i := 2) (v := .pointer (some ⟨ob, 0, none⟩)) rfl (by kernel_rfl) (by kernel_rfl) (by kernel_rfl) (by kernel_rfl) (fun _ _ _ h => h) hI.out ⟨by rfl, fun w' h => by go_simp⟩ ?_
          refine takeI (i := 3) (v := .pointer (some ⟨ob, 0, none⟩)) rfl (by kernel_rfl) (by kernel_rfl) (by kernel_rfl) (by kernel_rfl) (fun _ _ _ h => h) hI.out ⟨by rfl, fun w' h => by go_simp⟩ ?_
          refine takeI (i := 4) (v := .slice none 0 0) rfl (by kernel_rfl) (by kernel_rfl) (by kernel_rfl) (by kernel_rfl) (fun _ _ _ h => h) hI.out ⟨by rfl, fun w' h => by have c0 := cellLit h.2 0; simp at c0; go_simp⟩ ?_
          refine takeI (i := 5) (v := .agg #[.string s, .int .u64 a, .int .u64 b, .slice (some ⟨gu, 0, none⟩) (upsL r ub l).length capu, .bool ab, .int .u64 st]) rfl (by kernel_rfl) (by kernel_rfl) (by kernel_rfl) (by kernel_rfl) (fun _ _ _ h => h) hI.out ⟨by rfl, fun w' h => by have c0 := cellLit h.1 0; have c1 := cellLit h.1 1; have c2 := cellLit h.1 2; have c3 := cellLit h.1 3; have c4 := cellLit h.1 4; have c5 := cellLit h.1 5; simp at c0 c1 c2 c3 c4 c5; go_simp⟩ ?_
          refine oneI (i := 6) rfl (by kernel_rfl) (fun K hK => ?_)
          refine step_call rfl 13 _ _ rfl #[.agg #[.string s, .int .u64 a, .int .u64 b, .slice (some ⟨gu, 0, none⟩) (upsL r ub l).length capu, .bool ab, .int .u64 st]] (by go_simp) (en13 _ _) (dec_any s a b gu capu (upsL r ub l) ab st ha0 ha hb0 hb h0 h1 _ (by omega) hUl HUZ.out hgd hcd.out) ?_
          rintro e w2 ⟨v2, rfl, hown2, hb2⟩
          have hS2 : Hid (St w1 w2 lb ob w.heap.size M s a b ab st S0 (.slice (some ⟨gu, 0, none⟩) (upsL r ub l).length capu) (.slice none 0 0) lv G (struck (hopsL r l))) := hSd.out.below hb2
          have hsd := hSd.out.size
          have hown2 : Hid (w2.ownsRow w1.heap.size 5 1 v2 (decZ s a b (upsL r ub l) ab st).length (bc (decZ s a b (upsL r ub l) ab st))) := owns_mono hown2 hsd
          refine ⟨v2, rfl, hK _ _ (fun _ => ⟨hS2.out.d, hS2.out.o⟩) ?_⟩
          clear hK K hb2 hSd hI hcd
          obtain ⟨g2, cap2, hv2, _, hg2, _, _, hc2, _⟩ := owns_row hown2.out (dec_pos s a b (upsL r ub l) ab st)
          subst hv2
          clear hc2
          refine oneI (i := 7) rfl (by kernel_rfl) (fun K hK => ?_)
          go_simp
          have hS3 := hS2.out.alloc (.cells #[.slice (some ⟨g2, 0, none⟩) (decZ s a b (upsL r ub l) ab st).length cap2] 23 (0, 0))
          refine hK _ _ (fun _ => ⟨hS3.d, hS3.o⟩) ?_
          clear hK K
          refine oneI (i := 8) rfl (by kernel_rfl) (fun K hK => ?_)
          refine step_append_own rfl (.tmp 77) (.tmp 80) 114 rfl w1.heap.size 23 j0 (.slice none 0 0) 1 24 Yba.underlying114 hj0 hy0 hy1 hy2 rfl (by decide) (.slice none 0 0) 0 [] (by go_simp) (World.ownsRow_nil _ _ _ _) ⟨w2.heap.size, 0, none⟩ 1 1 [.slice (some ⟨g2, 0, none⟩) (decZ s a b (upsL r ub l) ab st).length cap2] (by go_simp) rfl (one_new rfl) (by intro u hu; simp at hu; subst hu; rfl) (by unfold maxLen; omega) (by omega) hS3.size ?_
          intro v4 w4 hown4 hgr4 _
          have hS4 := hS3.below ((Below.refl _ _).grown hgr4 (Nat.le_refl _) (fun k hk => by simp [Value.ownBlock] at hk))
          have hf4 : w4.ownsRow w1.heap.size 5 1 (.slice (some ⟨g2, 0, none⟩) (decZ s a b (upsL r ub l) ab st).length cap2) (decZ s a b (upsL r ub l) ab st).length (bc (decZ s a b (upsL r ub l) ab st)) := (hown2.out.alloc _).kept hgr4 (.inr (by simp [Value.ownBlock]))
          refine hK _ _ (fun _ => ⟨hS4.d, hS4.o⟩) ?_
          obtain ⟨ao4, cap4, hv4⟩ := owns_shape hown4
          subst hv4
          have HS4 : Hid (St w1 w4 lb ob w.heap.size M s a b ab st S0 (.slice (some ⟨gu, 0, none⟩) (upsL r ub l).length capu) (.slice none 0 0) lv G (struck (hopsL r l))) := hS4
          have HO4 : Hid (w4.ownsRow w1.heap.size 23 1 (.slice ao4 (0 + 1) cap4) (0 + 1) ([] ++ [.slice (some ⟨g2, 0, none⟩) (decZ s a b (upsL r ub l) ab st).length cap2])) := hown4
          have HF4 : Hid (w4.ownsRow w1.heap.size 5 1 (.slice (some ⟨g2, 0, none⟩) (decZ s a b (upsL r ub l) ab st).length cap2) (decZ s a b (upsL r ub l) ab st).length (bc (decZ s a b (upsL r ub l) ab st))) := hf4
          clear hK K hS3 hS4 hown4 hgr4 hf4
          refine oneI (i := 9) rfl (by kernel_rfl) (fun K hK => ?_)
          go_simp
          refine hK _ _ (fun _ => ⟨HS4.out.d, HS4.out.o⟩) ?_
          clear hK K
          refine oneI (i := 10) rfl (by kernel_rfl) (fun K hK => ?_)
          go_simp
          refine hK _ _ (fun _ => ⟨HS4.out.d, HS4.out.o⟩) ?_
          clear hK K
          have co := cellLit HS4.out.o 0
          have fo := blk_free HS4.out.o 0
          simp at co
          refine oneI (i := 11) rfl (by kernel_rfl) (fun K hK => ?_)
          go_simp
          refine hK _ _ (fun h => absurd rfl h) ?_
          clear hK K
          refine doneI (by kernel_rfl) ?_ _
          go_wp2
          go_meet
          have hlo : ob < w.heap.size := blk_lt HO.out
          have hs01 := HB0.out.size
          refine ⟨_, _, HS4.out.setUp _, hid (.inr ⟨fun e => by rw [e] at hU; exact Nat.lt_irrefl _ hU, _, ownsRow_setCell_below (a := ⟨ob, 0, none⟩) (owns_mono HO4.out hs01) hlo _, ownsRow_setCell_below (a := ⟨ob, 0, none⟩) (owns_mono HF4.out hs01) hlo _⟩)⟩
        · have hUn : upsL r ub l = [] := List.length_eq_zero_iff.1 (by omega)
          have HUN : Hid (upsL r ub l = []) := hUn
          clear hUn
          go_wp2
          go_meet
          exact ⟨dv, _, hSt1, hid (.inl ⟨HUN.out, rfl⟩)⟩
      case rest =>
        obtain ⟨dv', uv', hS5, hU5⟩ := hcut
        go_wp2
        go_ret
        have hsz := HB0.out.size
        refine ⟨_, lv, uv', G, rfl, ?_, ⟨hS5.out.log.blk, owns_mono hS5.out.log.own hsz, fun g hg => owns_mono (hS5.out.log.rows g hg) hsz⟩, hG1.out, hS5.out.vs, hS5.out.o, hU5.out, ?_⟩
        · simp
        · refine (Fr.of_below HB0.out).trans ((hS5.out.fr.mono hsz (fun k hk hx => ?_)))
          rcases hx with h | h | h | h
          · exact .inl h
          · exact .inr (.inl h)
          · omega
          · exact .inr (.inr h)
end Go.Proofs.Ybulkakzq.Route
