/-
  What the law reads when it checks: rows that stay, the log's cells, the parents' frames.
-/
import Derived.Test.YbulkakzqSortB
namespace Go.Proofs.Ybulkakzq.CheckB
open Go.RowKit Wire Blocks Box Votes Dec Names Fam Sp Sorts Rd Split Route New Setup SortB Still
set_option linter.unusedVariables false

theorem owns_off {w w' : World} {B e z n : Nat} {v : Value} {xs : List Value} {x : Nat → Prop} (h : w.ownsRow B e z v n xs) (hf : Fr w.heap.size x w w') (hx : Off w x [e]) : w'.ownsRow B e z v n xs := by
  refine owns_fr h hf (fun k hk hxk => ?_)
  rcases h.2 with ⟨rfl, _⟩ | ⟨g, cap, cur, rfl, _, hg, _⟩
  · simp [Value.ownBlock] at hk
  · simp [Value.ownBlock] at hk
    subst hk
    exact hx g cur e hxk hg (by simp)

theorem owns_below {w w' : World} {B e z n : Nat} {v : Value} {xs : List Value} (h : w.ownsRow B e z v n xs) (hb : Below w.heap.size w w') : w'.ownsRow B e z v n xs := owns_fr h (Fr.of_below (x := fun _ => False) hb) (fun _ _ h => h)

theorem flatG_at : ∀ {G : List G3} {j : Nat} {g : G3}, G[j]? = some g → (flatG G)[j * 2]? = some (.int .i64 (g.1 : Int)) ∧ (flatG G)[j * 2 + 1]? = some g.2.1
  | [], _, _, h => by simp at h
  | g' :: G, 0, g, h => by simp at h; subst h; simp [flatG]
  | g' :: G, j + 1, g, h => by
    have h' : G[j]? = some g := by simpa using h
    have := flatG_at h'
    simp only [flatG, List.flatMap_cons] at this ⊢
    rw [show (j + 1) * 2 = j * 2 + 2 by omega]
    simpa using this

theorem log_cells {w : World} {lb B : Nat} {lv : Value} {G : List G3} (h : LogS w lb B lv G) {j : Nat} {g : G3} (hj : G[j]? = some g) : ∃ gl cap, lv = .slice (some ⟨gl, 0, none⟩) G.length cap ∧ w.cell? ⟨gl, j * 2, none⟩ = some (.int .i64 (g.1 : Int)) ∧ w.cell? ⟨gl, j * 2 + 1, none⟩ = some g.2.1 := by
  have hjl : j < G.length := (List.getElem?_eq_some_iff.1 hj).1
  obtain ⟨gl, cap, cur, e, _, hg, _⟩ := h.own.2.resolve_left (by rintro ⟨_, h0⟩; omega)
  have ho := h.own
  rw [e] at ho
  refine ⟨gl, cap, e, ?_, ?_⟩
  · rw [ho.cellAt _ (by omega)]; exact (flatG_at hj).1
  · rw [ho.cellAt _ (by omega)]; exact (flatG_at hj).2

/-- The hops as the law has them, and the log's entries. -/
theorem hop_entry {T : List T3} {H : List (Nat × List ByteArray)} {G : List G3} {s : ByteArray} {a b : Int} {ab : Bool} {st : Int} (hT : hopsT T = H) (hG : G.map (fun g => (g.1, g.2.2)) = H.map (fun h => (h.1, decZ s a b h.2 ab st))) {j : Nat} {t : T3} (hj : T[j]? = some t) :
    H[j]? = some (t.1, t.2.2) ∧ ∃ cv, G[j]? = some (t.1, cv, decZ s a b t.2.2 ab st) := by
  have e1 : H[j]? = some (t.1, t.2.2) := by rw [← hT, hopsT, List.getElem?_map, hj]; rfl
  refine ⟨e1, ?_⟩
  have e2 := congrArg (fun q => q[j]?) hG
  simp only [List.getElem?_map, e1, Option.map_some] at e2
  obtain ⟨g, hg, e3⟩ := Option.map_eq_some_iff.1 e2
  obtain ⟨g1, g2, g3⟩ := g
  simp at e3
  exact ⟨g2, by rw [hg, e3.1, e3.2]⟩

theorem struck_take {H : List (Nat × List ByteArray)} {j : Nat} {h : Nat × List ByteArray} (hj : H[j]? = some h) (q : Nat) : struck (H.take (j + 1)) q = struck (H.take j) q ++ (if 0 < q ∧ q = h.1 then h.2 else []) := by
  rw [List.take_add_one, hj]
  exact struck_snoc _ _ _

/-- One operation alone may come up, and its guard lets it. -/
theorem oneG {P : Program} {md : Region.Mode} {ops : Array Oper} {Q : Exit → Act → World → Prop} {I : World → Prop} {L i : Nat} {o : Oper} {fuel : Nat} {listed : Array Bool} {a : Act} {w : World} (hi : ops[i]? = some o) (hr : Region.ready md ops listed = [i]) (hw : Region.wanted o (yielded ops a.tmps) = true)
    (h : ∀ K : Act → World → Prop, (∀ a' w', (i ≠ L → I w') → anyI P md ops Q L I fuel (listed.setIfInBounds i true) a' w' → K a' w') → Oper.wp P o a w K Q) : anyI P md ops Q L I (fuel + 1) listed a w :=
  oneI hi hr (fun K hK => by rw [if_pos hw]; exact h K hK)
/-- A call, behind the guard. -/
theorem step_call_w {P : Program} {o : Oper} {a : Act} {w : World} {K : Act → World → Prop} {Q : Exit → Act → World → Prop}
    (F : FuncId) (xs : Array Operand) (ts : Array TypeId) (hop : o.op = Op.call { callee := Callee.value (Operand.func F), args := xs, argTypes := ts })
    (args : Array Value) (hargs : xs.map a.eval = args) (henter : (callFunc F args).run P w = .ok (.enter F args) w)
    {R : Ending → World → Prop} (hc : Calls P F args w R) (hK : ∀ e w', R e w' → ∃ v, e = .returned v ∧ K (a.put o.dst v) w') : Oper.wp P o a w K Q := by
  have hrun : (execOp a.eval o).run P w = .ok (.enter F args) w := by
    subst hargs
    simp [execOp, hop, resolve, invoke, henter, Act.eval, go_sem]
  unfold Oper.wp
  rw [hrun, Oper.upon_enter]
  refine hc.mono fun e w' h => ?_
  obtain ⟨v, rfl, hk⟩ := hK e w' h
  exact hk
end Go.Proofs.Ybulkakzq.CheckB
