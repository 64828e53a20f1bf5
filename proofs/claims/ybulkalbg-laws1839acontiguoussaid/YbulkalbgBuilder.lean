/-
  The parser's block, and strings.Builder in its field 'written': contracts of copyCheck, WriteString, WriteByte, String.
-/
import Derived.Test.YbulkalbgRows
import Derived.Test.YbulkalbgWide
import Derived.Lib.Builder
import Derived.Lib.UnsafeStr
import Derived.Lib.FrozenHead
import Derived.RegionTactic
import Derived.BigRegion
import Derived.Outline
namespace Go.Proofs.Ybulkalbg.Builder
open Go.RowKit Blocks
set_option linter.unusedVariables false

/-- What stands between the source and the end in a parser: all zero. -/
def mid : List Value :=
  .nilIface :: (List.replicate 1025 (.int .u8 0) ++ (List.replicate 7 (.int .i64 0) ++ [.slice none 0 0, .int .i64 0, .int .i8 0, .int .i64 0, .int .i64 0, .int .i32 0, .nilFunc, .int .i64 0, .int .u64 0, .int .u64 0, .nilFunc, .string ⟨#[]⟩,
    .int .i64 0, .int .i64 0, .int .i64 0, .int .i32 0, .string ⟨#[]⟩, .int .i64 0, .int .i64 0]))
/-- The cells of a parser: its source, its end, its builder's two fields; all else zero. -/
def pc (src : ByteArray) (pend : Int) (addr buf : Value) : Array Value :=
  (.string src :: (mid ++ [.int .i64 pend, .int .i64 0, .int .i64 0, addr, buf, .pointer none, .map none, .slice none 0 0, .int .i64 0, .slice none 0 0])).toArray

set_option maxRecDepth 100000
theorem build_two (src : ByteArray) (pend : Int) (w : World) : (Instr.build 48 #[(0, .string src), (6, .int .i64 pend)]).run Yba.prog w = .ok (.agg (pc src pend (.pointer none) (.slice none 0 0))) w := by kernel_rfl
theorem build_one (src : ByteArray) (w : World) : (Instr.build 48 #[(0, .string src)]).run Yba.prog w = .ok (.agg (pc src 0 (.pointer none) (.slice none 0 0))) w := by kernel_rfl
theorem pc_src (src : ByteArray) (e : Int) (a b : Value) : (pc src e a b)[0]? = some (.string src) := by kernel_rfl
theorem pc_end (src : ByteArray) (e : Int) (a b : Value) : (pc src e a b)[1053]? = some (.int .i64 e) := by kernel_rfl
theorem pc_addr (src : ByteArray) (e : Int) (a b : Value) : (pc src e a b)[1056]? = some a := by kernel_rfl
theorem pc_buf (src : ByteArray) (e : Int) (a b : Value) : (pc src e a b)[1057]? = some b := by kernel_rfl
theorem pc_set_end (src : ByteArray) (e e' : Int) (a b : Value) : (pc src e a b).setIfInBounds 1053 (.int .i64 e') = pc src e' a b := by kernel_rfl
theorem pc_set_addr (src : ByteArray) (e : Int) (a a' b : Value) : (pc src e a b).setIfInBounds 1056 a' = pc src e a' b := by kernel_rfl
theorem pc_set_buf (src : ByteArray) (e : Int) (a b b' : Value) : (pc src e a b).setIfInBounds 1057 b' = pc src e a b' := by kernel_rfl
theorem pc_size (src : ByteArray) (e : Int) (a b : Value) : (pc src e a b).size = 1063 := by kernel_rfl
theorem lies : liesAt Yba.prog Yba.prog.depth 48 (1063 / Yba.prog.cellsOf 48) 1056 42 1 = true := by kernel_rfl
theorem info42 : (Yba.prog.info? 42).map (fun i => (i.zero, i.size, i.bytes)) = some (some (.agg #[.pointer none, .slice none 0 0]), 2, 32) := by kernel_rfl
theorem info5 : (Yba.prog.info? 5).map (fun i => (i.zero, i.size, i.bytes)) = some (some (.int .u8 0), 1, 1) := by kernel_rfl
theorem cells5 : Yba.prog.cellsOf 5 = 1 := by kernel_rfl

set_option maxHeartbeats 1000000 in
theorem check_used (p : Nat) (w : World) (h0 : w.cell? ⟨p, 1056, none⟩ = some (.pointer (some ⟨p, 1056, none⟩))) :
    Calls Yba.prog 8 #[.pointer (some ⟨p, 1056, none⟩)] w fun e' w' => e' = .returned (.tuple #[]) ∧ w' = w := by
  obtain ⟨j, hj, _⟩ := info_parts info42
  go_enter Yba.func8, Yba.ntmps8
  go_wp2
  rw [Lib.run_neq_ptr_same w _ Yba.underlying40 hj]
  go_wp2
  go_end0
  exact ⟨rfl, rfl⟩

set_option maxHeartbeats 1000000 in
theorem check_fresh (p : Nat) (w : World) (h0 : w.cell? ⟨p, 1056, none⟩ = some (.pointer none)) (hsh : w.shape? p = some (48, 1063)) (hfz : w.frozen? ⟨p, 1056, none⟩ = false) :
    Calls Yba.prog 8 #[.pointer (some ⟨p, 1056, none⟩)] w fun e' w' => e' = .returned (.tuple #[]) ∧ w' = w.setCell ⟨p, 1056, none⟩ (.pointer (some ⟨p, 1056, none⟩)) := by
  obtain ⟨j, hj, _, hjs, _⟩ := info_parts info42
  go_enter Yba.func8, Yba.ntmps8
  go_wp2
  rw [Lib.run_to_unsafe w ⟨p, 1056, none⟩ Yba.underlying40 Yba.underlying59 hj (by rw [hjs]; decide) hsh (by show 1056 < 1063; decide)]
  simp only [Result.andThen]
  rw [Oper.upon_value]
  go_wp2
  rw [run_callFunc_extern Yba.func10 (by kernel_rfl) (by kernel_rfl) (by kernel_rfl) (e := Extern.AbiNoEscape.same) (by kernel_rfl)]
  rw [Lib.run_noEscape]
  simp only [Result.andThen]
  rw [Oper.upon_value]
  go_wp2
  rw [Lib.run_from_unsafe w ⟨p, 1056, none⟩ Yba.underlying59 Yba.underlying40 hj hsh lies]
  simp only [Result.andThen]
  rw [Oper.upon_value]
  go_wp2
  go_end0
  exact ⟨rfl, rfl⟩

theorem check_any (p : Nat) (src : ByteArray) (e : Int) (a buf : Value) (w : World) (hp : w.heap[p]? = some (.cells (pc src e a buf) 48 (0, 0))) (ha : a = .pointer none ∨ a = .pointer (some ⟨p, 1056, none⟩)) :
    Calls Yba.prog 8 #[.pointer (some ⟨p, 1056, none⟩)] w fun e' w' => e' = .returned (.tuple #[]) ∧ w'.heap[p]? = some (.cells (pc src e (.pointer (some ⟨p, 1056, none⟩)) buf) 48 (0, 0)) ∧ w'.heap.size = w.heap.size ∧ Fr w.heap.size (fun k => k = p) w w' := by
  have c0 : w.cell? ⟨p, 1056, none⟩ = some a := (blk_cell hp 1056).trans (pc_addr _ _ _ _)
  rcases ha with rfl | rfl
  · refine (check_fresh p w c0 (by simp [World.shape?, hp, pc_size]) (blk_free hp _)).mono fun e' w' ⟨h1, h2⟩ => ⟨h1, ?_, ?_, ?_⟩
    · subst h2; rw [blk_set hp, pc_set_addr]
    · subst h2; simp
    · subst h2; exact (Fr.refl _ (fun k => k = p) w).setIn (b := p) rfl _ _
  · refine (check_used p w c0).mono fun e' w' ⟨h1, h2⟩ => ⟨h1, ?_, ?_, ?_⟩
    · subst h2; exact hp
    · subst h2; rfl
    · subst h2; exact Fr.refl _ _ _

/-- The parser in block p, its builder holding the bytes l in rows from block B on. -/
def PB (w : World) (p B : Nat) (src : ByteArray) (e : Int) (l : List UInt8) : Prop :=
  ∃ a buf, w.heap[p]? = some (.cells (pc src e a buf) 48 (0, 0)) ∧ (a = .pointer none ∨ a = .pointer (some ⟨p, 1056, none⟩)) ∧ w.ownsRow B 5 1 buf l.length (Lib.byteCells l) ∧ (l = [] → buf = .slice none 0 0) ∧ p < B ∧ B ≤ w.heap.size

set_option maxHeartbeats 1000000 in
theorem writeString_any (p B : Nat) (src : ByteArray) (e : Int) (l : List UInt8) (s : ByteArray) (w : World) (h : PB w p B src e l) (hs : s.size ≤ 140737488355328) (hl : l.length + s.size ≤ 140737488355328 + 1000000) :
    Calls Yba.prog 5 #[.pointer (some ⟨p, 1056, none⟩), .string s] w fun e' w' => e' = .returned (.tuple #[.int .i64 s.size, .nilIface]) ∧ PB w' p B src e (l ++ s.data.toList) ∧ Fr B (fun k => k = p) w w' := by
  obtain ⟨i0, hi, hz0, hz1, hz2⟩ := info_parts info5
  obtain ⟨a, buf, hp, ha, hown, hnil, hpB, hBw⟩ := h
  go_enter Yba.func5, Yba.ntmps5
  go_wp2_with fail
  refine (check_any p src e a buf w hp ha).mono ?_
  rintro e' w1 ⟨rfl, hp1, hs1e, hf1⟩
  have hs1 : w.heap.size ≤ w1.heap.size := by omega
  clear hs1e
  have hown1 : w1.ownsRow B 5 1 buf l.length (Lib.byteCells l) := by
    refine hown.kept (row := some p) ⟨hf1.os, hf1.tape, hf1.output, hf1.size, fun k hk hne => hf1.block k hk (fun e => hne (by rw [e]))⟩ ?_
    right
    intro e
    have := (hown.lt p e).1
    omega
  have c1 : w1.cell? ⟨p, 1057, none⟩ = some buf := (blk_cell hp1 1057).trans (pc_buf _ _ _ _)
  have HP1 : Hid (w1.heap[p]? = some (.cells (pc src e (.pointer (some ⟨p, 1056, none⟩)) buf) 48 (0, 0))) := hp1
  have HN : Hid (l = [] → buf = .slice none 0 0) := hnil
  clear hp hp1 hown hnil ha
  go_wp2_with (at_builtin; refine Wide.wpList_string_wide _ rfl (.tmp 12) (.tmp 13) 27 9 rfl B 5 i0 Yba.underlying27 Yba.underlying9 hi hz0 hz1 hz2 _ _ _ rfl hown1 s rfl ?c1 ?c2 ?c3 ?c4 ?_)
  case c1 => exact hs
  case c2 => omega
  case c3 => exact hl
  case c4 => omega
  intro v2 w2 hown2 hgr2 hn2
  have HN2 : Hid (v2 = .slice none 0 0 ↔ buf = .slice none 0 0 ∧ s = ByteArray.empty) := hn2
  have hp2 : w2.heap[p]? = some (.cells (pc src e (.pointer (some ⟨p, 1056, none⟩)) buf) 48 (0, 0)) := keepBlk (by decide) HP1.out hown1 hgr2
  have c2 : w2.cell? ⟨p, 1057, none⟩ = some buf := (blk_cell hp2 1057).trans (pc_buf _ _ _ _)
  have z2 : w2.frozen? ⟨p, 1057, none⟩ = false := blk_free hp2 1057
  have HP2 : Hid (w2.heap[p]? = some (.cells (pc src e (.pointer (some ⟨p, 1056, none⟩)) buf) 48 (0, 0))) := hp2
  have hf2 : Fr B (fun k => k = p) w w2 := (hf1.mono hBw (fun _ _ h => h)).grown hgr2 (by omega) (fun k hk => .inl (hown1.lt k hk).1)
  have hs2 := hf2.size
  obtain ⟨ao, cap, hv2, _⟩ := owns_any hown2
  subst hv2
  clear hp2 hgr2 hn2 hown1 HP1 c1
  go_wp2
  go_ret2
  refine ⟨rfl, ⟨.pointer (some ⟨p, 1056, none⟩), .slice ao (l.length + s.size) cap, ?_, .inr rfl, ?_, ?_, hpB, ?_⟩, hf2.setIn (b := p) rfl _ _⟩
  · rw [blk_set HP2.out, pc_set_buf]
  · have e1 : (l ++ s.data.toList).length = l.length + s.size := by rw [List.length_append]; rfl
    rw [e1, Lib.byteCells_append]
    exact ownsRow_setCell_below hown2 (by simpa using hpB) _
  · intro hnil
    have h1 : l = [] := (List.append_eq_nil_iff.1 hnil).1
    have h2 : s.data.toList = [] := (List.append_eq_nil_iff.1 hnil).2
    refine HN2.out.2 ⟨HN.out h1, ?_⟩
    have h3 : s.size = 0 := by have := congrArg List.length h2; simpa using this
    simpa using h3
  · simp; omega

set_option maxHeartbeats 1000000 in
theorem writeByte_any (p B : Nat) (src : ByteArray) (e : Int) (l : List UInt8) (c : UInt8) (w : World) (h : PB w p B src e l) (hl : l.length + 1 ≤ 140737488355328) :
    Calls Yba.prog 9 #[.pointer (some ⟨p, 1056, none⟩), .int .u8 c.toNat] w fun e' w' => e' = .returned .nilIface ∧ PB w' p B src e (l ++ [c]) ∧ Fr B (fun k => k = p) w w' := by
  obtain ⟨i0, hi, hz0, hz1, hz2⟩ := info_parts info5
  obtain ⟨a, buf, hp, ha, hown, hnil, hpB, hBw⟩ := h
  go_enter Yba.func9, Yba.ntmps9
  go_wp2_with fail
  refine (check_any p src e a buf w hp ha).mono ?_
  rintro e' w1 ⟨rfl, hp1, hs1e, hf1⟩
  have hs1 : w.heap.size ≤ w1.heap.size := by omega
  clear hs1e
  have hown1 : w1.ownsRow B 5 1 buf l.length (Lib.byteCells l) := by
    refine hown.kept (row := some p) ⟨hf1.os, hf1.tape, hf1.output, hf1.size, fun k hk hne => hf1.block k hk (fun e => hne (by rw [e]))⟩ ?_
    right
    intro e
    have := (hown.lt p e).1
    omega
  have c1 : w1.cell? ⟨p, 1057, none⟩ = some buf := (blk_cell hp1 1057).trans (pc_buf _ _ _ _)
  have HP1 : Hid (w1.heap[p]? = some (.cells (pc src e (.pointer (some ⟨p, 1056, none⟩)) buf) 48 (0, 0))) := hp1
  clear hp hp1 hown hnil ha
  go_wp2_with (at_builtin; refine wpList_append_own _ rfl (.tmp 11) (.tmp 13) 27 rfl B 5 i0 (.int .u8 0) 1 1 Yba.underlying27 hi hz0 hz1 hz2 rfl (by decide) _ _ _ rfl (hown1.alloc _) _ 1 1 [.int .u8 c.toNat] rfl rfl ?c1 ?c2 ?c3 ?c4 ?c5 ?_)
  case c1 => exact cell_one_new _ _ _
  case c2 => intro u hu; simp at hu; subst hu; rfl
  case c3 => unfold maxLen; omega
  case c4 => omega
  case c5 => simp; omega
  intro v2 w2 hown2 hgr2 _
  have hp2 : w2.heap[p]? = some (.cells (pc src e (.pointer (some ⟨p, 1056, none⟩)) buf) 48 (0, 0)) := keepBlk (by decide) (blk_alloc HP1.out) (hown1.alloc _) hgr2
  have c2 : w2.cell? ⟨p, 1057, none⟩ = some buf := (blk_cell hp2 1057).trans (pc_buf _ _ _ _)
  have z2 : w2.frozen? ⟨p, 1057, none⟩ = false := blk_free hp2 1057
  have HP2 : Hid (w2.heap[p]? = some (.cells (pc src e (.pointer (some ⟨p, 1056, none⟩)) buf) 48 (0, 0))) := hp2
  have hf2 : Fr B (fun k => k = p) w w2 := ((hf1.mono hBw (fun _ _ h => h)).alloc (by omega) _).grown hgr2 (by simp; omega) (fun k hk => .inl (hown1.lt k hk).1)
  have hs2 := hf2.size
  obtain ⟨ao, cap, hv2, _⟩ := owns_any hown2
  subst hv2
  clear hp2 hgr2 hown1 HP1 c1
  go_wp2
  go_ret
  refine ⟨rfl, ⟨.pointer (some ⟨p, 1056, none⟩), .slice ao (l.length + 1) cap, ?_, .inr rfl, ?_, ?_, hpB, ?_⟩, hf2.setIn (b := p) rfl _ _⟩
  · rw [blk_set HP2.out, pc_set_buf]
  · have e1 : (l ++ [c]).length = l.length + 1 := by simp
    rw [e1, Lib.byteCells_append]
    exact ownsRow_setCell_below hown2 (by simpa using hpB) _
  · intro hnil
    simp at hnil
  · simp; omega

set_option maxHeartbeats 1000000 in
theorem string_some (p B : Nat) (src : ByteArray) (e : Int) (l : List UInt8) (w : World) (h : PB w p B src e l) (h0 : l ≠ []) :
    Calls Yba.prog 7 #[.pointer (some ⟨p, 1056, none⟩)] w fun e' w' => e' = .returned (.string ⟨l.toArray⟩) ∧ Below B w w' := by
  obtain ⟨a, buf, hp, ha, hown, hnil, hpB, hBw⟩ := h
  have hl0 : l.length ≠ 0 := by simpa using h0
  obtain ⟨g, cap, cur, rfl, hbg, hg, hnc, hcm, hcs, htake⟩ : ∃ g cap cur, buf = .slice (some ⟨g, 0, none⟩) l.length cap ∧ B ≤ g ∧ w.heap[g]? = some (.cells cur 5 (0, 0)) ∧ l.length ≤ cap ∧ cap ≤ maxLen ∧ cur.size = cap * 1 ∧ cur.toList.take (l.length * 1) = Lib.byteCells l := by
    rcases hown.2 with ⟨_, hz⟩ | ⟨g, cap, cur, hv, r⟩
    · exact absurd hz hl0
    · exact ⟨g, cap, cur, hv, r⟩
  have c1 : w.drew.cell? ⟨p, 1057, none⟩ = some (.slice (some ⟨g, 0, none⟩) l.length cap) := (blk_cell (w := w.drew) hp 1057).trans (pc_buf _ _ _ _)
  have hSD : (Builtin.unsafeSliceData_ #[27] 58 #[.slice (some ⟨g, 0, none⟩) l.length cap]).run Yba.prog w.drew = .ok (.pointer (some ⟨g, 0, none⟩)) w.drew :=
    Lib.run_unsafeSliceData_row _ _ _ _ _ _ (by omega)
  have hUS : (Builtin.unsafeString_ #[58, 3] 9 #[.pointer (some ⟨g, 0, none⟩), .int .i64 l.length]).run Yba.prog w.drew = .ok (.string ⟨l.toArray⟩) (w.drew.freeze ⟨g, 0, none⟩ l.length) := by
    refine Lib.run_unsafeString_row w.drew 58 3 9 5 Yba.underlying58 cells5 g cur.size (by have hg' : w.drew.heap[g]? = some (.cells cur 5 (0, 0)) := hg; simp [World.shape?, hg']) l h0 (by omega) (by unfold maxLen at hcm; omega) ?_
    intro j x hx
    exact hown.cells (g := g) rfl j (.int .u8 x.toNat) (by simp [Lib.byteCells, hx])
  clear hp hg hcs htake hown hnil ha
  go_enter Yba.func7, Yba.ntmps7
  go_wp2
  go_region
  all_goals (go_wp2; go_ret; exact ⟨rfl, Lib.below_freeze (Below.drew (Below.refl B w)) (p := ⟨g, 0, none⟩) hbg _⟩)

set_option maxHeartbeats 1000000 in
theorem string_none (p B : Nat) (src : ByteArray) (e : Int) (w : World) (h : PB w p B src e []) :
    Calls Yba.prog 7 #[.pointer (some ⟨p, 1056, none⟩)] w fun e' w' => e' = .returned (.string ⟨#[]⟩) ∧ Below B w w' := by
  obtain ⟨a, buf, hp, ha, hown, hnil, hpB, hBw⟩ := h
  obtain rfl := hnil rfl
  have hUS := fun (W : World) (q : Option Addr) => Lib.run_unsafeString_none (P := Yba.prog) W 58 3 9 q
  have c1 : w.drew.cell? ⟨p, 1057, none⟩ = some (.slice none 0 0) := (blk_cell (w := w.drew) hp 1057).trans (pc_buf _ _ _ _)
  have hSD : (Builtin.unsafeSliceData_ #[27] 58 #[.slice none 0 0]).run Yba.prog w.drew = .ok (.pointer none) w.drew := rfl
  clear hp hown hnil ha
  go_enter Yba.func7, Yba.ntmps7
  go_wp2
  go_region
  all_goals (go_wp2; go_ret; exact ⟨rfl, Below.drew (Below.refl B w)⟩)

theorem string_any (p B : Nat) (src : ByteArray) (e : Int) (l : List UInt8) (w : World) (h : PB w p B src e l) :
    Calls Yba.prog 7 #[.pointer (some ⟨p, 1056, none⟩)] w fun e' w' => e' = .returned (.string ⟨l.toArray⟩) ∧ Below B w w' := by
  by_cases h0 : l = []
  · subst h0; exact string_none p B src e w h
  · exact string_some p B src e l w h h0
end Go.Proofs.Ybulkalbg.Builder
