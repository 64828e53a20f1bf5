/-
  WHAT 'laid' GIVES THE WALK: the map natChains and its look-up at "INPUT".
-/
import Derived.Test.YbulkalbgFmtLaw
import Derived.ProofKit
import Derived.LaidMore
import Derived.OpenShut
import Derived.Stop.Joined
namespace Go.Proofs.YbulkalbgFmt.Laid
open Go.ChangeShapes Go.WideShapes Go.ChangeAt Go.WideMaps Go.WideElems Go.RowKit
open Mem
set_option linter.unusedVariables false
set_option maxRecDepth 100000

theorem gChains : Ybaf.prog.globalNamed "example.com/cardea/cardea/internal/eval.natChains" = some 0 := by kernel_rfl
theorem tChains : (Ybaf.prog.globals[0]?).map (·.type) = some 57 := by kernel_rfl
theorem law : KeyLaw Ybaf.prog 9 := string_law Ybaf.underlying9
theorem cells9 : Ybaf.prog.cellsOf 9 = 1 := by kernel_rfl
theorem cells56 : Ybaf.prog.cellsOf 56 = 2 := by kernel_rfl

theorem elemAt_pair {H : Type} {enc : TypeId × Value → H} {W : World} {base : Nat} {held : Bool} {sp : Nat → Bool} {n : Nat} {v : Value} {z : DataW H × List MemPlace} {s1 s2 : ByteArray} (h : elemAt enc Ybaf.prog W base sp held n 56 v = some z) (hz : z.1 = .agg [.lit (.string s1.data.toList), .lit (.string s2.data.toList)]) : v = .agg #[.string s1, .string s2] := by
  unfold elemAt at h
  split at h
  · rename_i hf
    obtain ⟨xs, m, rfl, hx, hlen, hn, hel⟩ := DataW.trod_array Ybaf.underlying56 h
    have h0 := hel 0 (by decide)
    have h1 := hel 1 (by decide)
    rw [cells9] at h0 h1
    match xs, hn, h0, h1 with
    | [x0, x1], _, h0, h1 =>
      rw [hx] at hz
      simp only [List.map_cons, List.map_nil, DataW.agg.injEq, List.cons.injEq, and_true] at hz
      obtain ⟨t1, c1, e1, _⟩ := DataW.trod_string Ybaf.underlying9 (show DataW.trod _ Ybaf.prog W _ _ _ m 9 _ = some x0 from h0)
      obtain ⟨t2, c2, e2, _⟩ := DataW.trod_string Ybaf.underlying9 (show DataW.trod _ Ybaf.prog W _ _ _ m 9 _ = some x1 from h1)
      rw [e1, e2] at hz
      simp at hz
      obtain ⟨q1, q2⟩ := hz
      rw [cells56] at hlen
      have k1 : t1 = s1 := bytes_inj (by simpa using q1)
      have k2 : t2 = s2 := bytes_inj (by simpa using q2)
      subst k1 k2
      clear h h0 h1 hel
      cases v with
      | agg cs =>
        obtain ⟨l⟩ := cs
        simp [Value.cells] at hlen c1 c2
        match l, hlen, c1, c2 with
        | [a, b], _, c1, c2 =>
          simp at c1 c2
          rw [c1, c2]
      | _ => simp [Value.formed, Ybaf.underlying56] at hf
  · cases h

theorem of_laid {W : World} (h : laidMetH Ybaf.prog Rows.lawS1839BLoopedBackRow.laid W) : ∃ bm, W.cell? ⟨0, 0, none⟩ = some (.map (some bm)) ∧ ∀ w', Below W.heap.size W w' → (Instr.lookup 57 (.map (some bm)) (.string sIN) false).run Ybaf.prog w' = .ok (.agg #[.string sPRE, .string sIN]) w' := by
  rw [MakeChecks.laidMetH_plain _ _ _ (by kernel_rfl)] at h
  obtain ⟨ps, ⟨g0, t0, cs0, f0, p0, q0, hg0, ht0, hv0, hd0, _, _⟩, _, _⟩ := h
  obtain rfl := Option.some.inj (gChains.symm.trans hg0)
  obtain rfl := Option.some.inj (tChains.symm.trans ht0)
  rcases open_map Ybaf.underlying57 hd0 with ⟨_, hx⟩ | ⟨bm, es, clock, m, rfl, hcs, hb, _, F, hx⟩
  · simp [Rows.laid_example_com_cardea_cardea_internal_eval_natChains] at hx
  simp only [Prod.mk.injEq] at hx
  have hcell : W.cell? ⟨0, 0, none⟩ = some (.map (some bm)) := by
    have := World.var?_cell hg0 hv0 0
    rw [Array.eq_one_of_toList hcs] at this
    simpa using this
  refine ⟨bm, hcell, fun w' hw' => ?_⟩
  have hb' : w'.heap[bm]? = some (.map es clock) := by rw [hw'.block bm (Array.getElem?_eq_some_iff.1 hb).1]; exact hb
  have zero : (zeroValue 56).run Ybaf.prog w' = .ok (.agg #[.string ⟨#[]⟩, .string ⟨#[]⟩]) w' := by kernel_rfl
  rcases fit_lookup (w := w') law Ybaf.underlying57 zero hb' F (keyOf_string_mk (s := sIN) Ybaf.underlying9 (by decide)) with ⟨_, hat⟩ | ⟨v, y, hrun, hRv, hat, _⟩
  · have := hat .nil
    rw [← hx.1] at this
    exact absurd this (by intro e; cases e)
  · have := hat .nil
    rw [← hx.1] at this
    have e2 : (Rows.laid_example_com_cardea_cardea_internal_eval_natChains (H := Unit)).atKey (.string sIN.data.toList) .nil = .agg [.lit (.string sPRE.data.toList), .lit (.string sIN.data.toList)] := by rfl
    rw [e2] at this
    rw [elemAt_pair hRv this.symm] at hrun
    exact hrun
end Go.Proofs.YbulkalbgFmt.Laid
