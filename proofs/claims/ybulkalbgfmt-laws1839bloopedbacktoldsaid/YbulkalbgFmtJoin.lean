/-
  append of a whole slice that is owned, nil or not, onto one that is owned.
-/
import Derived.Test.YbulkalbgFmtErrf
import Derived.Deep.Upon
namespace Go.Proofs.YbulkalbgFmt.Join
open Go.RowKit Blocks Mem Reads Back Chains
set_option linter.unusedVariables false
set_option linter.unusedSimpArgs false

theorem run_join {P : Program} (w : World) (base B' : Nat) (t ty e : TypeId) (i : TypeInfo) (z : Value) (bytes : Nat) (ht : P.underlying t = some (.slice e)) (hi : P.info? e = some i) (hz : i.zero = some z)
    (hsize : i.size = 1) (hby : i.bytes = bytes) (hzs : z.cells.size = 1) (v u : Value) (n m : Nat) (xs ys : List Value) (hown : w.ownsRow base e 1 v n xs) (hu : w.ownsRow B' e 1 u m ys) (h1 : ∀ y ∈ ys, y.oneCell' = true)
    (h63 : n + m ≤ maxLen) (hbytes : (n + m) * bytes ≤ 140737488355328) (hbase : base ≤ w.heap.size) :
    ∃ v' w', (Builtin.append_ #[t, t] ty #[v, u]).run P w = .ok v' w' ∧ w'.ownsRow base e 1 v' (n + m) (xs ++ ys) ∧ w.grownBy w' v.ownBlock ∧ (v'.ownBlock = v.ownBlock ∨ v'.ownBlock = some w.heap.size) := by
  rcases hu.2 with ⟨rfl, rfl⟩ | ⟨g, cap, cur, rfl, _⟩
  · have hy : ys = [] := List.eq_nil_of_length_eq_zero (by simpa using hu.1)
    subst hy
    refine ⟨v, w, ?_, by simpa using hown, ⟨rfl, rfl, rfl, Nat.le_refl _, fun _ _ _ => rfl⟩, .inl rfl⟩
    rcases hown.2 with ⟨rfl, rfl⟩ | ⟨g, cap, cur, rfl, _, _, hle, _⟩
    · simp [Builtin.append_, run_underlying ht, sizeOf, typeInfo, hi, Builtin.lenOf, Builtin.firstCells, loadCells, loadCellsFrom]
    · simp [Builtin.append_, run_underlying ht, sizeOf, typeInfo, hi, Builtin.lenOf, Builtin.firstCells, loadCells, loadCellsFrom, hle, storeCells]
  · obtain ⟨v', w', h2, h3, h4, h5, h6⟩ := run_append_own_at (P := P) w base t ty e i z 1 bytes ht hi hz hsize hby hzs (by decide) v n xs hown ⟨g, 0, none⟩ m cap ys hu.1 (hu.cells (g := g) rfl) h1 h63 hbytes hbase
    exact ⟨v', w', h2, h3, h4, h6⟩

theorem wpList_join {P : Program} (w : World) {ops : Array Oper} {rest : List Oper} {o : Oper} {a : Act} {Q : Exit → Act → World → Prop} (hgd : o.guard = none) (s x : Operand) (t : TypeId)
    (ho : o.op = .call { callee := .builtin .append, args := #[s, x], argTypes := #[t, t] })
    (base B' : Nat) (e : TypeId) (i : TypeInfo) (z : Value) (bytes : Nat) (ht : P.underlying t = some (.slice e)) (hi : P.info? e = some i) (hz : i.zero = some z)
    (hsize : i.size = 1) (hby : i.bytes = bytes) (hzs : z.cells.size = 1) (v u : Value) (n m : Nat) (xs ys : List Value) (hs : a.eval s = v) (hx : a.eval x = u) (hown : w.ownsRow base e 1 v n xs) (hu : w.ownsRow B' e 1 u m ys) (h1 : ∀ y ∈ ys, y.oneCell' = true)
    (h63 : n + m ≤ maxLen) (hbytes : (n + m) * bytes ≤ 140737488355328) (hbase : base ≤ w.heap.size)
    (h : ∀ v' w', w'.ownsRow base e 1 v' (n + m) (xs ++ ys) → w.grownBy w' v.ownBlock → (v'.ownBlock = v.ownBlock ∨ v'.ownBlock = some w.heap.size) → wpList P ops Q rest (a.put o.dst v') w') :
    wpList P ops Q (o :: rest) a w := by
  refine wpList_plain hgd fun K hK => ?_
  obtain ⟨v', w', hr, h2, h3, h5⟩ := run_join (P := P) w base B' t o.type e i z bytes ht hi hz hsize hby hzs v u n m xs ys hown hu h1 h63 hbytes hbase
  unfold Oper.wp execOp
  simp only [ho, resolve, invoke, builtin, Sem.run_bind, Sem.run_pure, Result.andThen_ok, List.map_toArray, List.map_cons, List.map_nil, hs, hx, hr]
  exact hK _ _ (h v' w' h2 h3 h5)
end Go.Proofs.YbulkalbgFmt.Join
