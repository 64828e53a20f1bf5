/-
  'append(b, s...)' onto a slice of bytes that the call owns, where the sum may pass 2^47: growslice's own test still lets it by (it asks 'the capacity picked ≤ 2^48').
-/
import Derived.Test.YbulkalbgBlocks
import Derived.Lib.AppendStr
import Derived.Deep.DeepAppendWide
namespace Go.Proofs.Ybulkalbg.Wide
open Go.RowKit Go.Lib

variable {P : Program} (w : World)

theorem run_string_wide (base : Nat) (t u ty e : TypeId) (i : TypeInfo) (ht : P.underlying t = some (.slice e)) (hu : P.underlying u = some .string) (hi : P.info? e = some i) (hz : i.zero = some (.int .u8 0))
    (hsize : i.size = 1) (hby : i.bytes = 1) (v : Value) (n : Nat) (xs : List Value) (hown : w.ownsRow base e 1 v n xs) (s : ByteArray)
    (hs : s.size ≤ 140737488355328) (hn : n ≤ 140737488355328 + 1000000) (hsum : n + s.size ≤ 140737488355328 + 1000000) (hbase : base ≤ w.heap.size) :
    ∃ v' w', (Builtin.append_ #[t, u] ty #[v, .string s]).run P w = .ok v' w' ∧ w'.ownsRow base e 1 v' (n + s.size) (xs ++ strCells s) ∧ w.grownBy w' v.ownBlock ∧ (v' = .slice none 0 0 ↔ v = .slice none 0 0 ∧ s.size = 0) := by
  by_cases hle : n + s.size ≤ 140737488355328
  · exact run_append_own_string w base t u ty e i ht hu hi hz hsize hby v n xs hown s (by unfold maxLen; omega) hle hbase
  have hxl : xs.length = n := by simpa using hown.1
  have hlen : (xs ++ strCells s).length = (n + s.size) * 1 := by rw [List.length_append, hxl, strCells_length, Nat.mul_one]
  rcases hown.2 with ⟨rfl, rfl⟩ | ⟨g, cap, cur, rfl, hbg, hg, hnc, hcm, hcs, htake⟩
  · omega
  by_cases hroom : n + s.size ≤ cap
  · have hcs' : cur.size = cap := by simpa using hcs
    have hr := run_append_room_string (P := P) w t u ty e i ht hu hi hsize g n cap cur hg s hroom (by omega)
    refine ⟨_, _, hr, ⟨hlen, .inr ⟨g, cap, _, rfl, hbg, setRow_heap w g cur _ e _ hg, hroom, hcm, ?_, ?_⟩⟩, ⟨rfl, rfl, rfl, by simp, fun k _ hk => setRow_other w g k _ (fun e => hk (by simp [Value.ownBlock, e]))⟩, by simp⟩
    · simp only [List.size_toArray, List.length_append, List.length_take, List.length_drop, Array.length_toList, strCells_length]
      omega
    · have ht' : cur.toList.take n = xs := by simpa using htake
      rw [ht', ← hlen]
      exact List.take_left
  · have holds : ∀ j u, xs[j]? = some u → w.cell? ((⟨g, 0, none⟩ : Addr).add j) = some u := hown.cells (g := g) rfl
    have hr := run_append_grow_string (P := P) w t u ty e i (.int .u8 0) ht hu hi hz ⟨g, 0, none⟩ n cap xs (by rw [hsize]; simpa using hxl) holds s (by omega) (by omega) (by rw [hby]; exact growslice_fits_wide (by omega) (by omega))
    have hge := grownCap_ge w (n + s.size) cap e
    have hcm' : grownCap w (n + s.size) cap e ≤ maxLen := grownCap_le_maxLen w (n + s.size) cap e (by unfold maxLen; omega)
    refine ⟨_, _, hr, ⟨hlen, .inr ⟨w.heap.size, _, _, rfl, hbase, heap_alloc_new w.drew _, hge, hcm', ?_, ?_⟩⟩, ⟨rfl, rfl, rfl, by simp, fun k hk _ => Below.heap_alloc w.drew _ k hk⟩, by simp⟩
    · have hz1 : (Value.int IntKind.u8 0).cells.size = 1 := rfl
      simp only [Array.size_append, List.size_toArray, size_zeroCells, hz1, hxl, strCells_length]
      omega
    · simp only [Array.toList_append, List.append_assoc]
      rw [← List.append_assoc, ← hlen]
      exact List.take_left

theorem wpList_string_wide {ops : Array Oper} {rest : List Oper} {o : Oper} {a : Act} {Q : Exit → Act → World → Prop} (hgd : o.guard = none) (sl x : Operand) (t u : TypeId)
    (ho : o.op = .call { callee := .builtin .append, args := #[sl, x], argTypes := #[t, u] })
    (base : Nat) (e : TypeId) (i : TypeInfo) (ht : P.underlying t = some (.slice e)) (hu : P.underlying u = some .string) (hi : P.info? e = some i) (hz : i.zero = some (.int .u8 0))
    (hsize : i.size = 1) (hby : i.bytes = 1) (v : Value) (n : Nat) (xs : List Value) (hs : a.eval sl = v) (hown : w.ownsRow base e 1 v n xs) (s : ByteArray) (hx : a.eval x = .string s)
    (h1 : s.size ≤ 140737488355328) (h2 : n ≤ 140737488355328 + 1000000) (h3 : n + s.size ≤ 140737488355328 + 1000000) (hbase : base ≤ w.heap.size)
    (h : ∀ v' w', w'.ownsRow base e 1 v' (n + s.size) (xs ++ strCells s) → w.grownBy w' v.ownBlock → (v' = .slice none 0 0 ↔ v = .slice none 0 0 ∧ s.size = 0) → wpList P ops Q rest (a.put o.dst v') w') : wpList P ops Q (o :: rest) a w := by
  refine wpList_plain hgd fun K hK => ?_
  obtain ⟨v', w', hr, k2, k3, k4⟩ := run_string_wide (P := P) w base t u o.type e i ht hu hi hz hsize hby v n xs hown s h1 h2 h3 hbase
  unfold Oper.wp execOp
  simp only [ho, resolve, invoke, builtin, Sem.run_bind, Sem.run_pure, Result.andThen_ok, List.map_toArray, List.map_cons, List.map_nil, hs, hx, hr]
  exact hK _ _ (h v' w' k2 k3 k4)

end Go.Proofs.Ybulkalbg.Wide
