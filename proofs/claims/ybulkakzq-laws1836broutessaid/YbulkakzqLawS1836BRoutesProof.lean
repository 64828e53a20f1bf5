/-
  LawS1836BRoutes: THE STATEMENT, out of the walk (YbulkakzqLawB.lean). The frame is the guide's shell's, its end said limb by limb ('Below' in the place of 'Grown'); the slice and the two arrays are handed back by 'Below.trod'.
-/
import Derived.Test.YbulkakzqRows
import Derived.WalkKit
import Derived.ProofKit
import Derived.OpenShut
import Derived.ShutString
import Derived.ChangeOld
import Derived.Below
import Derived.Laws.IdiomArrays
import Derived.Test.YbulkakzqLawB
namespace Go.Proofs.Ybulkakzq.lawS1836BRoutes
open Go.ChangeShapes Go.WideShapes Go.ChangeAt Go.RowKit
open Go.ChangeMaps (open_string shut_string)
set_option linter.unusedVariables false

theorem own : ownKnob Yba.prog.godebug = none := by kernel_rfl
theorem laidOut : laidOutB Yba.prog = true := by kernel_rfl
theorem cells29 : Yba.prog.cellsOf 29 = 4 := by kernel_rfl
theorem cells30 : Yba.prog.cellsOf 30 = 4 := by kernel_rfl
theorem cells5 : Yba.prog.cellsOf 5 = 1 := by kernel_rfl
theorem cells4 : Yba.prog.cellsOf 4 = 1 := by kernel_rfl

def IsRow (k : IntKind) (w : World) (a : Option Addr) (len cap : Nat) (zs : List Int) : Prop :=
  (a = none ∧ len = 0 ∧ cap = 0 ∧ zs = []) ∨
  ∃ x, a = some x ∧ len ≤ cap ∧ cap ≤ maxLen ∧ zs.length = cap ∧ (∀ i, i < zs.length → w.cell? (x.add i) = some (.int k (zs.getD i 0))) ∧ ∀ n ∈ zs, (Lit.int k n).wf = true

theorem four (l : List Value) (h : l.length = 4) : ∃ a b c d, l = [a, b, c, d] := by
  match l, h with
  | [a, b, c, d], _ => exact ⟨a, b, c, d, rfl⟩

theorem walk (a0 : Option Addr) (len0 cap0 : Nat) (z0 : List Int) (x0 x1 x2 x3 : Int) (g0 g1 g2 g3 child fp : Bool) (s : ByteArray) (a b : Int) (ab : Bool) (st : Int) (w : World) (wr : IsRow .u8 w a0 len0 cap0 z0)
    (w0 : (Lit.int .u8 x0).wf = true) (w1 : (Lit.int .u8 x1).wf = true) (w2 : (Lit.int .u8 x2).wf = true) (w3 : (Lit.int .u8 x3).wf = true) (wa : (Lit.int .u64 a).wf = true) (wb : (Lit.int .u64 b).wf = true) (ws : (Lit.int .u64 st).wf = true) :
    Calls Yba.prog 4 #[.slice a0 len0 cap0, .agg #[.int .u8 x0, .int .u8 x1, .int .u8 x2, .int .u8 x3], .agg #[.bool g0, .bool g1, .bool g2, .bool g3], .bool child, .bool fp, .string s, .int .u64 a, .int .u64 b, .bool ab, .int .u64 st] w fun e w' => e = .returned (.bool true) ∧ Below w.heap.size w w' := by
  obtain ⟨p0, r0⟩ := bounds_u8 w0
  obtain ⟨p1, r1⟩ := bounds_u8 w1
  obtain ⟨p2, r2⟩ := bounds_u8 w2
  obtain ⟨p3, r3⟩ := bounds_u8 w3
  obtain ⟨pa, ra⟩ := bounds_u64 wa
  obtain ⟨pb, rb⟩ := bounds_u64 wb
  obtain ⟨ps, rs⟩ := bounds_u64 ws
  obtain ⟨q0, rfl⟩ := Int.eq_ofNat_of_zero_le p0
  obtain ⟨q1, rfl⟩ := Int.eq_ofNat_of_zero_le p1
  obtain ⟨q2, rfl⟩ := Int.eq_ofNat_of_zero_le p2
  obtain ⟨q3, rfl⟩ := Int.eq_ofNat_of_zero_le p3
  rcases wr with ⟨rfl, rfl, rfl, rfl⟩ | ⟨x, rfl, hlc, hcm, hz, hcell, hwf⟩
  · exact LawB.law_any none 0 0 [] q0 q1 q2 q3 g0 g1 g2 g3 child fp s a b ab st w rfl (fun j z h => by simp at h) (by omega) (by omega) (by omega) (by omega) pa (by omega) pb (by omega) ps (by omega)
  · refine LawB.law_any (some x) len0 cap0 ((z0.take len0).map Int.toNat) q0 q1 q2 q3 g0 g1 g2 g3 child fp s a b ab st w (by simp; omega) (fun j z h => ?_) (by omega) (by omega) (by omega) (by omega) pa (by omega) pb (by omega) ps (by omega)
    rw [List.getElem?_map] at h
    obtain ⟨y, hy, rfl⟩ := Option.map_eq_some_iff.1 h
    have hjl : j < (z0.take len0).length := (List.getElem?_eq_some_iff.1 hy).1
    have hj0 : j < z0.length := by simp at hjl; omega
    have hy0 : z0[j]? = some y := by
      rw [List.getElem?_take] at hy
      split at hy
      · exact hy
      · cases hy
    obtain ⟨b1, b2⟩ := bounds_u8 (hwf y (List.mem_of_getElem? hy0))
    obtain ⟨bk, off, spot⟩ := x
    have hc := hcell j hj0
    have h0 := hcell 0 (by omega)
    have hspot : spot = none := by simpa [Addr.add] using World.cell?_spot h0
    subst hspot
    rw [Addr.add_lit] at hc
    have e1 : z0.getD j 0 = y := by rw [List.getD_eq_getElem?_getD, hy0]; rfl
    rw [e1] at hc
    refine ⟨by omega, bk, off, rfl, World.block_lt_of_cell? w _ hc, ?_⟩
    rw [Int.toNat_of_nonneg b1]
    exact hc

/-! ### THE ROW's STEP -/
set_option maxRecDepth 100000 in
theorem lifted (os : Os) (started : os.Started) (H : Type) (enc : TypeId × Value → H) :
    ReturnsInHanded {} Yba.checked os 4 .any (Rows.lawS1836BRoutesSpec.pre6 enc Yba.prog Yba.f4 Rows.lawS1836BRoutesRow.domain false) (Rows.lawS1836BRoutesSpec.post enc Yba.prog Yba.f4 false true false false) := by
  refine returnsInHanded_of_change (C := Yba.checked) own started (by kernel_rfl) Yba.func4
    (ChangeSpec.witness6 (enc := enc) (C := Yba.checked) false ⟨#[], #[.slice none 0 0, .agg #[.int .u8 0, .int .u8 0, .int .u8 0, .int .u8 0], .agg #[.bool false, .bool false, .bool false, .bool false], .bool false, .bool false, .string ByteArray.empty, .int .u64 0, .int .u64 0, .bool false, .int .u64 0], []⟩ 8 (by kernel_rfl) (by kernel_rfl) (by kernel_rfl) (by kernel_rfl)) ?_
  intro W base args ds gs before hval0 hW hcnd _
  have hval : ∀ (j : Nat) t v, Yba.f4.params[j]? = some t → args[j]? = some v → Value.okWide Yba.prog W .any base t v := hval0
  have hW' := hW
  obtain ⟨p, q, hA0, hV, rfl, hfz, hnd⟩ := hW
  have hA : DataW.TrodAll enc Yba.prog W 0 (fun _ => true) true Yba.f4.params.toList args.toList ds p := hA0
  rw [Yba.params4] at hA hval
  obtain ⟨v0, vs0, d0, ds0, p0, q0, hargs, rfl, rfl, h0, r0⟩ := trodAll_cons hA
  obtain ⟨v1, vs1, d1, ds1, p1, q1, rfl, rfl, rfl, h1, r1⟩ := trodAll_cons r0
  obtain ⟨v2, vs2, d2, ds2, p2, q2, rfl, rfl, rfl, h2, r2⟩ := trodAll_cons r1
  obtain ⟨v3, vs3, d3, ds3, p3, q3, rfl, rfl, rfl, h3, r3⟩ := trodAll_cons r2
  obtain ⟨v4, vs4, d4, ds4, p4, q4, rfl, rfl, rfl, h4, r4⟩ := trodAll_cons r3
  obtain ⟨v5, vs5, d5, ds5, p5, q5, rfl, rfl, rfl, h5, r5⟩ := trodAll_cons r4
  obtain ⟨v6, vs6, d6, ds6, p6, q6, rfl, rfl, rfl, h6, r6⟩ := trodAll_cons r5
  obtain ⟨v7, vs7, d7, ds7, p7, q7, rfl, rfl, rfl, h7, r7⟩ := trodAll_cons r6
  obtain ⟨v8, vs8, d8, ds8, p8, q8, rfl, rfl, rfl, h8, r8⟩ := trodAll_cons r7
  obtain ⟨v9, vs9, d9, ds9, p9, q9, rfl, rfl, rfl, h9, r9⟩ := trodAll_cons r8
  obtain ⟨rfl, rfl, rfl⟩ := trodAll_nil r9
  obtain rfl : args = #[v0, v1, v2, v3, v4, v5, v6, v7, v8, v9] := by cases args; simp_all
  obtain ⟨rfl, rfl⟩ := trodVars_none hV
  obtain ⟨a0, len0, cap0, rfl⟩ := okWide_slice Yba.underlying23 (hval 0 23 v0 rfl rfl)
  have k0 := h0
  have lt0 : ∀ x ∈ p0, x.block < W.heap.size := by obtain ⟨m, hm⟩ := k0; exact DataW.trod_lt m _ _ _ hm
  obtain ⟨z0, wr0⟩ : ∃ zs, IsRow .u8 W a0 len0 cap0 zs := by
    obtain ⟨fuel, hf⟩ := h0
    rcases open_ints Yba.underlying23 Yba.underlying5 (by kernel_rfl) hf with ⟨hcs, _⟩ | ⟨x, l, c, zs, hcs, _, hl, hm, hz, _, hcell, hwz⟩
    · simp [Value.cells] at hcs
      obtain ⟨rfl, rfl, rfl⟩ := hcs
      exact ⟨[], .inl ⟨rfl, rfl, rfl, rfl⟩⟩
    · simp [Value.cells] at hcs
      obtain ⟨rfl, rfl, rfl⟩ := hcs
      exact ⟨zs, .inr ⟨_, rfl, hl, hm, by simpa using hz, hcell, hwz⟩⟩
  have k1 := h1
  have lt1 : ∀ x ∈ p1, x.block < W.heap.size := by obtain ⟨m, hm⟩ := k1; exact DataW.trod_lt m _ _ _ hm
  obtain ⟨x0, x1, x2, x3, ev1, w0, w1, w2, w3⟩ : ∃ x0 x1 x2 x3 : Int, v1 = .agg #[.int .u8 x0, .int .u8 x1, .int .u8 x2, .int .u8 x3] ∧ (Lit.int .u8 x0).wf = true ∧ (Lit.int .u8 x1).wf = true ∧ (Lit.int .u8 x2).wf = true ∧ (Lit.int .u8 x3).wf = true := by
    obtain ⟨cs, rfl, hsz, _⟩ : ∃ cs, v1 = .agg cs ∧ cs.size = Yba.prog.cellsOf 29 ∧ Row.okWide Yba.prog W .any base 29 cs := by
      have := hval 1 29 v1 rfl rfl
      simpa [Value.okWide, Yba.underlying29] using this
    rw [cells29] at hsz
    obtain ⟨l⟩ := cs
    obtain ⟨c0, c1, c2, c3, rfl⟩ := four l hsz
    obtain ⟨fuel, hf⟩ := h1
    obtain ⟨y0, y1, y2, y3, m, hx, hy0, hy1, hy2, hy3⟩ := trod_array4 Yba.underlying29 cells5 hf
    obtain ⟨x0, e0, _, w0⟩ := DataW.trod_int Yba.underlying5 hy0
    obtain ⟨x1, e1, _, w1⟩ := DataW.trod_int Yba.underlying5 hy1
    obtain ⟨x2, e2, _, w2⟩ := DataW.trod_int Yba.underlying5 hy2
    obtain ⟨x3, e3, _, w3⟩ := DataW.trod_int Yba.underlying5 hy3
    simp at e0 e1 e2 e3
    subst e0 e1 e2 e3
    exact ⟨x0, x1, x2, x3, rfl, w0, w1, w2, w3⟩
  subst ev1
  have k2 := h2
  have lt2 : ∀ x ∈ p2, x.block < W.heap.size := by obtain ⟨m, hm⟩ := k2; exact DataW.trod_lt m _ _ _ hm
  obtain ⟨g0, g1, g2, g3, ev2⟩ : ∃ g0 g1 g2 g3 : Bool, v2 = .agg #[.bool g0, .bool g1, .bool g2, .bool g3] := by
    obtain ⟨cs, rfl, hsz, _⟩ : ∃ cs, v2 = .agg cs ∧ cs.size = Yba.prog.cellsOf 30 ∧ Row.okWide Yba.prog W .any base 30 cs := by
      have := hval 2 30 v2 rfl rfl
      simpa [Value.okWide, Yba.underlying30] using this
    rw [cells30] at hsz
    obtain ⟨l⟩ := cs
    obtain ⟨c0, c1, c2, c3, rfl⟩ := four l hsz
    obtain ⟨fuel, hf⟩ := h2
    obtain ⟨y0, y1, y2, y3, m, hx, hy0, hy1, hy2, hy3⟩ := trod_array4 Yba.underlying30 cells4 hf
    obtain ⟨g0, e0, _⟩ := DataW.trod_bool Yba.underlying4 hy0
    obtain ⟨g1, e1, _⟩ := DataW.trod_bool Yba.underlying4 hy1
    obtain ⟨g2, e2, _⟩ := DataW.trod_bool Yba.underlying4 hy2
    obtain ⟨g3, e3, _⟩ := DataW.trod_bool Yba.underlying4 hy3
    simp at e0 e1 e2 e3
    subst e0 e1 e2 e3
    exact ⟨g0, g1, g2, g3, rfl⟩
  subst ev2
  obtain ⟨a3, rfl, rfl, rfl⟩ := open_bool Yba.underlying4 (hval 3 4 v3 rfl rfl) h3
  obtain ⟨a4, rfl, rfl, rfl⟩ := open_bool Yba.underlying4 (hval 4 4 v4 rfl rfl) h4
  obtain ⟨a5, rfl, rfl, rfl, w5⟩ := open_string Yba.underlying9 (hval 5 9 v5 rfl rfl) h5
  obtain ⟨a6, rfl, rfl, rfl, w6⟩ := open_int Yba.underlying22 (hval 6 22 v6 rfl rfl) h6
  obtain ⟨a7, rfl, rfl, rfl, w7⟩ := open_int Yba.underlying22 (hval 7 22 v7 rfl rfl) h7
  obtain ⟨a8, rfl, rfl, rfl⟩ := open_bool Yba.underlying4 (hval 8 4 v8 rfl rfl) h8
  obtain ⟨a9, rfl, rfl, rfl, w9⟩ := open_int Yba.underlying22 (hval 9 22 v9 rfl rfl) h9
  clear hA0 hval0
  refine (walk a0 len0 cap0 z0 x0 x1 x2 x3 g0 g1 g2 g3 a3 a4 a5 a6 a7 a8 a9 W wr0 w0 w1 w2 w3 w6 w7 w9).mono fun e W' ⟨he, bel⟩ => ?_
  subst he
  exact ⟨_, rfl, _, _, _, [], _, [], hW', trodAll_mk1 (shut_bool Yba.underlying4 _), (trodAll_cons_mk (Below.trod laidOut (by kernel_rfl) (of_decide_eq_true (by kernel_rfl)) k0 bel lt0) (trodAll_cons_mk (Below.trod laidOut (by kernel_rfl) (of_decide_eq_true (by kernel_rfl)) k1 bel lt1) (trodAll_cons_mk (Below.trod laidOut (by kernel_rfl) (of_decide_eq_true (by kernel_rfl)) k2 bel lt2) (trodAll_cons_mk (shut_bool Yba.underlying4 _) (trodAll_cons_mk (shut_bool Yba.underlying4 _) (trodAll_cons_mk (shut_string Yba.underlying9 w5) (trodAll_cons_mk (shut_int Yba.underlying22 w6) (trodAll_cons_mk (shut_int Yba.underlying22 w7) (trodAll_cons_mk (shut_bool Yba.underlying4 _) (trodAll_cons_mk (shut_int Yba.underlying22 w9) trodAll_mk0)))))))))), rfl, bel.frame _, fun h => by cases h⟩

theorem over : Rows.lawS1836BRoutesRow.holds Yba.pinned (OpenSpec.ofChange Rows.lawS1836BRoutesSpec) :=
  OpenClaim.holds_of_wide 4 Yba.f4 rfl rfl rfl rfl rfl rfl rfl ⟨rfl, rfl, rfl, rfl, rfl⟩ rfl rfl rfl rfl rfl (by kernel_rfl) Yba.func4 (by kernel_rfl)
    (of_decide_eq_true (by kernel_rfl)) (by unfold Func.isWrapper; first | (rw [if_pos (by decide +kernel)]; kernel_rfl) | (rw [if_neg (by decide +kernel)]; exact ⟨rfl, rfl⟩))
    (fun os started H enc _ => lifted os started H enc)

theorem proved : Rows.LawS1836BRoutesSaid := over
end Go.Proofs.Ybulkakzq.lawS1836BRoutes
