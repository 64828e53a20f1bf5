/-
  THE MAPS that the vote keys index: one id, keys apart by the name alone.
-/
import Derived.Test.YbulkakzqDec
import Derived.Lib.SlicesS
namespace Go.Proofs.Ybulkakzq.Votes
open Go.RowKit Blocks
set_option linter.unusedVariables false
set_option maxRecDepth 100000

/-- The key of name x under the one id. -/
def kv (s : ByteArray) (a b : Int) (x : ByteArray) : Value := .agg #[.string s, .int .u64 a, .int .u64 b, .string x]

theorem eqK (s : ByteArray) (a b : Int) (x y : ByteArray) (w : World) : (Op.equal 76 (kv s a b x) (kv s a b y)).run Yba.prog w = .ok (decide (x = y)) w := by
  have e : (Op.equal 76 (kv s a b x) (kv s a b y)).run Yba.prog w = if x.toList = y.toList then .ok true w else .ok false w := by
    simp only [Op.equal, Op.maxDepth, kv]
    go_simp
  rw [e]
  have hq := Lib.bytes_beq_iff x y
  rw [beq_iff_eq] at hq
  by_cases h : x = y
  · rw [if_pos (hq.2 h), decide_eq_true h]
  · rw [if_neg (fun h' => h (hq.1 h')), decide_eq_false h]

theorem chkK (e : Bool) (s : ByteArray) (a b : Int) (x : ByteArray) (w : World) : (Instr.checkKey e 10000 76 (kv s a b x)).run Yba.prog w = .ok () w := by kernel_rfl

/-- Where x stands among the names. -/
def posn (x : ByteArray) : List ByteArray → Nat → Option (Nat × Value)
  | [], _ => none
  | y :: ys, i => if x = y then some (i, .bool false) else posn x ys (i + 1)

theorem asking (s : ByteArray) (a b : Int) (x : ByteArray) (w : World) : ∀ (es : List MapEntry) (S : List ByteArray) (i : Nat), es.map (·.key) = S.map (kv s a b) → (∀ e ∈ es, e.val = .bool false) →
    (Instr.findAsking 76 (kv s a b x) es i).run Yba.prog w = .ok (posn x S i) w
  | [], [], i, _, _ => rfl
  | [], _ :: _, _, h, _ => by simp at h
  | _ :: _, [], _, h, _ => by simp at h
  | e :: es, y :: ys, i, h, hv => by
    simp only [List.map_cons, List.cons.injEq] at h
    unfold Instr.findAsking
    rw [h.1]
    simp only [Sem.run_bind, eqK, Result.andThen_ok]
    by_cases hxy : x = y
    · simp [hxy, posn, hv e (by simp)]
    · simp only [hxy, decide_false, Bool.false_eq_true, if_false, posn]
      exact asking s a b x w es ys (i + 1) h.2 (fun e' he => hv e' (by simp [he]))

theorem finds (s : ByteArray) (a b : Int) (x : ByteArray) (w : World) (es : List MapEntry) (S : List ByteArray) (h : es.map (·.key) = S.map (kv s a b)) (hv : ∀ e ∈ es, e.val = .bool false) :
    (Instr.findKey 76 (kv s a b x) es).run Yba.prog w = .ok (posn x S 0) w := by
  unfold Instr.findKey
  simp only [Sem.run_bind, run_underlying Yba.underlying76, Result.andThen_ok]
  cases es with
  | nil =>
    cases S with
    | nil => rfl
    | cons _ _ => simp at h
  | cons e es =>
    cases S with
    | nil => simp at h
    | cons y ys =>
      have h1 : e.key = kv s a b y := by simpa using (List.cons.inj h).1
      have hs : ∀ (d : TypeDesc) (c1 c2 : Array Value), Instr.sameNow d (.agg c1) (.agg c2) = none := fun d c1 c2 => by cases d <;> rfl
      have h2 : ∀ d : TypeDesc, Instr.findNow d (kv s a b x) (e :: es) 0 = none := fun d => by
        unfold Instr.findNow
        rw [h1]
        simp only [kv, hs]
      rw [h2]
      exact asking s a b x w (e :: es) (y :: ys) 0 h hv

/-- Block m is a map whose keys are those names. -/
def UM (w : World) (m : Nat) (s : ByteArray) (a b : Int) (S : List ByteArray) : Prop :=
  ∃ es clock, w.heap[m]? = some (.map es clock) ∧ es.toList.map (·.key) = S.map (kv s a b) ∧ ∀ e ∈ es.toList, e.val = .bool false

theorem posn_none {x : ByteArray} : ∀ {S : List ByteArray} {i : Nat}, x ∉ S → posn x S i = none
  | [], _, _ => rfl
  | y :: ys, i, h => by
    simp only [List.mem_cons, not_or] at h
    simp only [posn, if_neg h.1]
    exact posn_none h.2
theorem posn_some {x : ByteArray} : ∀ {S : List ByteArray} {i : Nat}, x ∈ S → ∃ j, posn x S i = some (i + j, .bool false) ∧ S[j]? = some x ∧ ∀ k, k < j → S[k]? ≠ some x
  | [], _, h => by simp at h
  | y :: ys, i, h => by
    by_cases e : x = y
    · exact ⟨0, by simp [posn, e], by simp [e], fun k hk => by omega⟩
    · have h' : x ∈ ys := by simpa [e] using h
      obtain ⟨j, h1, h2, h3⟩ := posn_some (i := i + 1) h'
      refine ⟨j + 1, ?_, by simpa using h2, fun k hk => ?_⟩
      · simp only [posn, if_neg e, h1]
        congr 2
        omega
      · cases k with
        | zero => simpa using Ne.symm e
        | succ k => simpa using h3 k (by omega)

/-- A look: is it there. -/
theorem has_run {w : World} {m : Nat} {s : ByteArray} {a b : Int} {S : List ByteArray} (h : UM w m s a b S) (x : ByteArray) :
    ∃ t : Bool, (t = true ↔ x ∈ S) ∧ (Instr.lookup 51 (.map (some m)) (kv s a b x) true).run Yba.prog w = .ok (.tuple #[.bool false, .bool t]) w := by
  obtain ⟨es, clock, hm, hk, hv⟩ := h
  have z : (zeroValue 4).run Yba.prog w = .ok (.bool false) w := by kernel_rfl
  by_cases hx : x ∈ S
  · refine ⟨true, by simp [hx], ?_⟩
    obtain ⟨j, h1, _⟩ := posn_some (i := 0) hx
    unfold Instr.lookup
    simp only [Sem.run_bind, run_underlying Yba.underlying51, Result.andThen_ok, MapKept.run_getObj_map hm, Sem.run_pure, chkK, finds s a b x w es.toList S hk hv]
    simp [h1]
  · refine ⟨false, by simp [hx], ?_⟩
    unfold Instr.lookup
    simp only [Sem.run_bind, run_underlying Yba.underlying51, Result.andThen_ok, MapKept.run_getObj_map hm, Sem.run_pure, chkK, finds s a b x w es.toList S hk hv]
    simp [posn_none hx, z]

theorem grown_set (w : World) (m : Nat) (o : Obj) : w.grownBy { w with heap := w.heap.setIfInBounds m o } (some m) :=
  ⟨rfl, rfl, rfl, by simp, fun k _ hk => Array.getElem?_setIfInBounds_ne (fun e => hk (by rw [e]))⟩

theorem set_at {w : World} {m : Nat} (h : m < w.heap.size) (o : Obj) : ({ w with heap := w.heap.setIfInBounds m o } : World).heap[m]? = some o := by simp [h]

/-- A new name is put in. -/
theorem put_run {w : World} {m : Nat} {s : ByteArray} {a b : Int} {S : List ByteArray} (h : UM w m s a b S) {x : ByteArray} (hx : x ∉ S) :
    ∃ w', (Instr.mapUpdate 51 (.map (some m)) (kv s a b x) (.bool false)).run Yba.prog w = .ok () w' ∧ UM w' m s a b (S ++ [x]) ∧ w.grownBy w' (some m) := by
  obtain ⟨es, clock, hm, hk, hv⟩ := h
  have hlt : m < w.heap.size := blk_lt hm
  refine ⟨{ w with heap := w.heap.setIfInBounds m (.map (es.push { key := kv s a b x, val := .bool false, born := clock }) (clock + 1)) }, ?_, ⟨es.push { key := kv s a b x, val := .bool false, born := clock }, clock + 1, set_at hlt _, by simp [hk], ?_⟩, grown_set _ _ _⟩
  · unfold Instr.mapUpdate
    simp only [Sem.run_bind, run_underlying Yba.underlying51, Result.andThen_ok, MapKept.run_getObj_map hm, chkK, finds s a b x w es.toList S hk hv]
    simp [posn_none hx, MapKept.run_setObj_map _ hm]
  · intro e he
    simp at he
    rcases he with he | rfl
    · exact hv e (by simpa using he)
    · rfl

theorem mem_erase {S : List ByteArray} (hS : S.Nodup) {j : Nat} {x : ByteArray} (h : S[j]? = some x) (y : ByteArray) : y ∈ S.eraseIdx j ↔ y ∈ S ∧ y ≠ x := by
  induction S generalizing j with
  | nil => simp at h
  | cons z S ih =>
    rw [List.nodup_cons] at hS
    cases j with
    | zero =>
      simp at h
      subst h
      simp only [List.eraseIdx_cons_zero, List.mem_cons]
      exact ⟨fun hy => ⟨.inr hy, fun e => hS.1 (e ▸ hy)⟩, fun ⟨h1, h2⟩ => h1.resolve_left h2⟩
    | succ j =>
      have h' : S[j]? = some x := by simpa using h
      have hzx : z ≠ x := fun e => hS.1 (e ▸ List.mem_of_getElem? h')
      simp only [List.eraseIdx_cons_succ, List.mem_cons, ih hS.2 h']
      exact ⟨fun hy => hy.elim (fun e => ⟨.inl e, fun e2 => hzx (e ▸ e2)⟩) (fun h => ⟨.inr h.1, h.2⟩), fun ⟨h1, h2⟩ => h1.elim .inl (fun h => .inr ⟨h, h2⟩)⟩

theorem map_erase {α β : Type} (f : α → β) : ∀ (l : List α) (j : Nat), (l.eraseIdx j).map f = (l.map f).eraseIdx j
  | [], j => by simp
  | x :: l, 0 => by simp
  | x :: l, j + 1 => by simp [map_erase f l j]

/-- A name is struck. -/
theorem del_run {w : World} {m : Nat} {s : ByteArray} {a b : Int} {S : List ByteArray} (h : UM w m s a b S) (hS : S.Nodup) (x : ByteArray) (ty : TypeId) :
    ∃ w' S', (Builtin.delete_ #[51, 76] ty #[.map (some m), kv s a b x]).run Yba.prog w = .ok (.tuple #[]) w' ∧ UM w' m s a b S' ∧ S'.Nodup ∧ (∀ y, y ∈ S' ↔ y ∈ S ∧ y ≠ x) ∧ w.grownBy w' (some m) := by
  obtain ⟨es, clock, hm, hk, hv⟩ := h
  have hlt : m < w.heap.size := blk_lt hm
  by_cases hx : x ∈ S
  · obtain ⟨j, h1, h2, _⟩ := posn_some (i := 0) hx
    refine ⟨{ w with heap := w.heap.setIfInBounds m (.map (es.eraseIdxIfInBounds j) clock) }, S.eraseIdx j, ?_, ⟨es.eraseIdxIfInBounds j, clock, set_at hlt _, ?_, ?_⟩, hS.sublist (List.eraseIdx_sublist _ _), mem_erase hS h2, grown_set _ _ _⟩
    · simp [Builtin.delete_, h1, run_underlying Yba.underlying51, MapKept.run_getObj_map hm, chkK, finds s a b x w es.toList S hk hv, MapKept.run_setObj_map _ hm]
    · rw [Array.toList_eraseIdxIfInBounds, map_erase, hk, map_erase]
    · intro e he
      rw [Array.toList_eraseIdxIfInBounds] at he
      exact hv e (List.mem_of_mem_eraseIdx he)
  · refine ⟨{ w with heap := w.heap.setIfInBounds m (.map es clock) }, S, ?_, ⟨es, clock, set_at hlt _, hk, hv⟩, hS, fun y => ⟨fun h => ⟨h, fun e => hx (e ▸ h)⟩, fun h => h.1⟩, grown_set _ _ _⟩
    simp [Builtin.delete_, posn_none hx, run_underlying Yba.underlying51, MapKept.run_getObj_map hm, chkK, finds s a b x w es.toList S hk hv, MapKept.run_setObj_map _ hm]

section
variable {w w' : World} {m : Nat} {s : ByteArray} {a b : Int} {S : List ByteArray}
theorem UM.block (h : UM w m s a b S) (hb : w'.heap[m]? = w.heap[m]?) : UM w' m s a b S := by
  obtain ⟨es, clock, h1, h2⟩ := h
  exact ⟨es, clock, by rw [hb]; exact h1, h2⟩
theorem UM.lt (h : UM w m s a b S) : m < w.heap.size := by obtain ⟨es, clock, h1, _⟩ := h; exact blk_lt h1
end
end Go.Proofs.Ybulkakzq.Votes
