/-
  A REGION THAT DRAWS ITS ORDER, where some operations read what no other operation of the region turns: such a read may be taken first. What stays unturned is told by a predicate I on worlds that every step keeps. No program is named.
-/
import Derived.Test.YbulkakzqSteps
import Derived.StillTail
namespace Go.Proofs.Ybulkakzq.Still
open Go
set_option linter.unusedVariables false

section
variable {P : Program} {md : Region.Mode} {ops : Array Oper} {Q : Exit → Act → World → Prop} {I : World → Prop}

/-- In every world that I bears the operation gives v and turns nothing. -/
def YI (P : Program) (ops : Array Oper) (I : World → Prop) (o : Oper) (v : Value) (a : Act) : Prop :=
  Region.wanted o (yielded ops a.tmps) = true ∧ ∀ w, I w → (execOp a.eval o).run P w = .ok (.value v) w

theorem YI.same {o : Oper} {v : Value} {a a' : Act} (hy : YI P ops I o v a) (he : execOp a'.eval o = execOp a.eval o) (hw : Region.wanted o (yielded ops a'.tmps) = Region.wanted o (yielded ops a.tmps)) : YI P ops I o v a' :=
  ⟨by rw [hw]; exact hy.1, by rw [he]; exact hy.2⟩

theorem YI.op {i : Nat} {o : Oper} {v : Value} {a : Act} (hi : ops[i]? = some o) (hy : YI P ops I o v a) {K : Act → World → Prop} {w : World} (hI : I w) (h : K (a.put o.dst v) w) : wpOp P ops Q i K a w := by
  unfold wpOp
  simp only [hi, hy.1, if_true, Oper.wp, hy.2 w hI, Oper.upon]
  exact .inl h

/-- A step of another operation leaves the read as it was. -/
theorem put_still {j : Nat} {oi oj : Oper} {v : Value} (hj : ops[j]? = some oj) (hap : oi.apart ops oj = true) (hsi : ∀ cs b, oi.op ≠ .select cs b) (hsj : ∀ cs b, oj.op ≠ .select cs b)
    (hQ : ∀ c a w, Q (.panic c) (a.put oi.dst v) w → Q (.panic c) a w) {K : Act → World → Prop} {a : Act} {w : World} (hy : YI P ops I oi v a) (h : wpOp P ops Q j K (a.put oi.dst v) w) :
    wpOp P ops Q j (fun a' w' => YI P ops I oi v a' ∧ K (a'.put oi.dst v) w') a w := by
  obtain ⟨p1, p2, p3⟩ := Oper.apart_spec hap
  have stay : ∀ (x : Act), YI P ops I oi v x → ∀ u, YI P ops I oi v (x.put oj.dst u) := fun x hx u => hx.same (execOp_put oi hsi x oj.dst u p3) (wanted_put oi x oj.dst u p3)
  unfold wpOp at h ⊢
  simp only [hj] at h ⊢
  rw [wanted_put oj a oi.dst v p1] at h
  by_cases hw : Region.wanted oj (yielded ops a.tmps) = true
  · rw [if_pos hw] at h ⊢
    rcases h with h | ⟨h1, h2⟩
    · left
      unfold Oper.wp at h ⊢
      rw [execOp_put oj hsj a oi.dst v p1] at h
      cases hr : (execOp a.eval oj).run P w with
      | ok nx w' =>
        rw [hr] at h
        cases nx with
        | value u => exact ⟨stay a hy u, by rw [← Act.put_comm a v u p2]; exact h⟩
        | skip => exact ⟨stay a hy undef, by rw [← Act.put_comm a v undef p2]; exact h⟩
        | defer d =>
          refine ⟨stay { a with defers := d :: a.defers } (hy.same (a' := { a with defers := d :: a.defers }) rfl rfl) undef, ?_⟩
          rw [← Act.put_comm _ v undef p2, ← Act.put_defers]
          exact h
        | enter f args =>
          refine Calls.mono h fun e w2 he => ?_
          cases e with
          | returned u => exact ⟨stay a hy u, by rw [← Act.put_comm a v u p2]; exact he⟩
          | panicked c => exact hQ _ _ _ he
          | outgrown => exact he
        | row r args => exact Rows.mono h fun u w2 he => ⟨stay a hy u, by rw [← Act.put_comm a v u p2]; exact he⟩
        | _ => exact h
      | halt x w' =>
        rw [hr] at h
        cases x with
        | panic u => exact hQ _ _ _ h
        | _ => exact h
    · right
      refine ⟨?_, h2⟩
      unfold Oper.asks at h1 ⊢
      rw [execOp_put oj hsj a oi.dst v p1] at h1
      exact h1
  · rw [if_neg hw] at h ⊢
    exact ⟨stay a hy undef, by rw [← Act.put_comm a v undef p2]; exact h⟩

/-- Every order, each step of which keeps I; operation number L, that waits for all, may break it. -/
def anyI (P : Program) (md : Region.Mode) (ops : Array Oper) (Q : Exit → Act → World → Prop) (L : Nat) (I : World → Prop) : Nat → Array Bool → Act → World → Prop
  | 0, listed, a, w => Region.ready md ops listed = [] ∧ Q .normal a w
  | fuel + 1, listed, a, w => (Region.ready md ops listed = [] → Q .normal a w) ∧ ∀ i ∈ Region.ready md ops listed, wpOp P ops Q i (fun a' w' => (i ≠ L → I w') ∧ anyI P md ops Q L I fuel (listed.setIfInBounds i true) a' w') a w

theorem anyI.any {L : Nat} : ∀ {fuel : Nat} {listed : Array Bool} {a : Act} {w : World}, anyI P md ops Q L I fuel listed a w → wpAny P md ops Q fuel listed a w
  | 0, _, _, _, h => h
  | _ + 1, _, _, _, h => ⟨h.1, fun i hi => wpOp_mono (fun _ _ hk => hk.2.any) (h.2 i hi)⟩

theorem anyI_first {L i : Nat} {oi : Oper} {v : Value} (hi : ops[i]? = some oi) (hsel : ∀ (j : Nat) (o : Oper) cs b, ops[j]? = some o → o.op ≠ .select cs b)
    (hiL : i ≠ L) (hL : ∀ listed, L ∈ Region.ready md ops listed → listed.getD i false = true)
    (hQ : ∀ c a w, Q (.panic c) (a.put oi.dst v) w → Q (.panic c) a w) : ∀ (fuel : Nat) (listed : Array Bool) (a : Act) (w : World),
      (∀ j oj, ops[j]? = some oj → j ≠ i → listed.getD j true = false → (∀ e ∈ oj.after, Region.binds md e = true → e.on ≠ i) → oi.apart ops oj = true) →
      i ∈ Region.ready md ops listed → YI P ops I oi v a → I w → anyI P md ops Q L I fuel (listed.setIfInBounds i true) (a.put oi.dst v) w → anyI P md ops Q L I (fuel + 1) listed a w := by
  intro fuel
  induction fuel with
  | zero =>
    intro listed a w _ hr hy hI H
    refine ⟨fun h => (by rw [h] at hr; cases hr), fun j hj => ?_⟩
    by_cases hji : j = i
    · subst hji; exact hy.op hi hI ⟨fun _ => hI, H⟩
    · have := ready_mono hj hji
      rw [H.1] at this
      cases this
  | succ fuel ih =>
    intro listed a w hfree hr hy hI H
    refine ⟨fun h => (by rw [h] at hr; cases hr), fun j hj => ?_⟩
    by_cases hji : j = i
    · subst hji; exact hy.op hi hI ⟨fun _ => hI, H⟩
    · have h1 := H.2 j (ready_mono hj hji)
      obtain ⟨hun, oj, hoj, hall⟩ := mem_ready.1 hj
      have hunl : listed.getD i false ≠ true := fun q1 => by
        have q0 := (mem_ready.1 hr).1
        rcases Nat.lt_or_ge i listed.size with h' | h'
        · simp [h'] at q0 q1; rw [q0] at q1; cases q1
        · simp [Array.getElem?_eq_none h'] at q1
      have hnot : ∀ e ∈ oj.after, Region.binds md e = true → e.on ≠ i := fun e he hb heq => hunl (heq ▸ hall e he hb)
      have hjL : j ≠ L := fun e => hunl (hL listed (e ▸ hj))
      have h2 := put_still hoj (hfree j oj hoj hji hun hnot) (fun cs b => hsel i oi cs b hi) (fun cs b => hsel j oj cs b hoj) hQ hy h1
      refine wpOp_mono (fun a' w' h3 => ⟨h3.2.1, ih (listed.setIfInBounds j true) a' w' (fun k ok hk hki hun' hno => ?_) (ready_mono hr (Ne.symm hji)) h3.1 (h3.2.1 hjL) ?_⟩) h2
      · refine hfree k ok hk hki ?_ hno
        by_cases hjk : j = k
        · subst hjk; exact hun
        · rw [getD_set_ne true hjk] at hun'; exact hun'
      · rw [Array.setIfInBounds_comm _ _ hji]
        exact h3.2.2

/-- A read of what stays is taken first. -/
theorem takeI {L i : Nat} {oi : Oper} {v : Value} {fuel : Nat} {listed : Array Bool} {a : Act} {w : World} (hi : ops[i]? = some oi) (hs : Region.noSelect ops = true) (hf : Region.free md ops listed i = true) (hr : (Region.ready md ops listed).contains i = true)
    (hL : (i != L && (decide (ops.size ≤ L) || Region.waitsFor md ops L i)) = true)
    (hQ : ∀ c a w, Q (.panic c) (a.put oi.dst v) w → Q (.panic c) a w) (hI : I w) (hy : YI P ops I oi v a) (h : anyI P md ops Q L I fuel (listed.setIfInBounds i true) (a.put oi.dst v) w) : anyI P md ops Q L I (fuel + 1) listed a w := by
  simp only [Bool.and_eq_true, bne_iff_ne, ne_eq, Bool.or_eq_true, decide_eq_true_eq] at hL
  refine anyI_first hi (Region.noSelect_spec hs) hL.1 (fun listed' hm => ?_) hQ fuel listed a w (Region.free_spec hi hf) (by simpa using hr) hy hI h
  obtain ⟨_, o, ho, hall⟩ := mem_ready.1 hm
  rcases hL.2 with h1 | h1
  · rw [Array.getElem?_eq_none h1] at ho; cases ho
  · obtain ⟨oL, hoL, e, he, hb, hon⟩ := Region.waitsFor_spec h1
    rw [hoL] at ho
    cases ho
    have := hall e he hb
    rw [hon] at this
    exact this

/-- One operation alone may come up. -/
theorem oneI {L i : Nat} {o : Oper} {fuel : Nat} {listed : Array Bool} {a : Act} {w : World} (hi : ops[i]? = some o) (hr : Region.ready md ops listed = [i])
    (h : ∀ K : Act → World → Prop, (∀ a' w', (i ≠ L → I w') → anyI P md ops Q L I fuel (listed.setIfInBounds i true) a' w' → K a' w') → if Region.wanted o (yielded ops a.tmps) = true then Oper.wp P o a w K Q else K (a.put o.dst undef) w) : anyI P md ops Q L I (fuel + 1) listed a w := by
  refine ⟨fun e => (by rw [hr] at e; cases e), fun j hj => ?_⟩
  rw [hr] at hj
  have hj : j = i := by simpa using hj
  subst hj
  have h1 := h (fun a' w' => (j ≠ L → I w') ∧ anyI P md ops Q L I fuel (listed.setIfInBounds j true) a' w') (fun a' w' q1 q2 => ⟨q1, q2⟩)
  unfold wpOp
  simp only [hi]
  by_cases hw : Region.wanted o (yielded ops a.tmps) = true
  · rw [if_pos hw] at h1 ⊢; exact .inl h1
  · rw [if_neg hw] at h1 ⊢; exact h1

theorem doneI {L : Nat} {listed : Array Bool} {a : Act} {w : World} (hr : Region.ready md ops listed = []) (h : Q .normal a w) : ∀ fuel, anyI P md ops Q L I fuel listed a w
  | 0 => ⟨hr, h⟩
  | _ + 1 => ⟨fun _ => h, by rw [hr]; simp⟩
end
end Go.Proofs.Ybulkakzq.Still
