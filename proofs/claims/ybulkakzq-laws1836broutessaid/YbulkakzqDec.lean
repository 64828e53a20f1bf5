/-
  DecisionFrame: the frame's bytes, whatever order the region draws.
-/
import Derived.Test.YbulkakzqFrame
import Derived.Test.YbulkakzqStill
namespace Go.Proofs.Ybulkakzq.Dec
open Go.RowKit Wire Blocks RegSteps DFrame Still
open Go.Shelf
set_option linter.unusedVariables false
set_option maxRecDepth 100000

def bodyZ (s : ByteArray) (a b : Int) (l : List ByteArray) (ab : Bool) (st : Int) : List Int := idZ s a b ++ (listZ l ++ stampZ ab st)
def decZ (s : ByteArray) (a b : Int) (l : List ByteArray) (ab : Bool) (st : Int) : List Int := beZ (1 + ((bodyZ s a b l ab st).length : Nat)) 4 ++ (79 :: bodyZ s a b l ab st)

/-- The decision that is boxed. -/
def decO (s : ByteArray) (a b : Int) (tv : Value) (ab : Bool) (st : Int) : Obj := .cells #[.string s, .int .u64 a, .int .u64 b, tv, .bool ab, .int .u64 st] 119 (0, 0)

theorem list_len {l : List ByteArray} (h : ∀ x ∈ l, x.size ≤ 10) : (listZ l).length ≤ 1 + 11 * l.length := by
  have := flat_len h
  simp only [listZ, List.length_cons]
  omega

theorem body_len (s : ByteArray) (a b : Int) (l : List ByteArray) (ab : Bool) (st : Int) : (bodyZ s a b l ab st).length = 17 + s.size + (listZ l).length + 9 := by
  simp only [bodyZ, List.length_append, idZ_len, stampZ_len]; omega
theorem body_pos (s : ByteArray) (a b : Int) (l : List ByteArray) (ab : Bool) (st : Int) : 0 < (bodyZ s a b l ab st).length := by rw [body_len]; omega
theorem body_le (s : ByteArray) (a b : Int) (l : List ByteArray) (ab : Bool) (st : Int) (hs : s.size ≤ 4096) (hl : l.length ≤ 1024) (hll : (listZ l).length ≤ 1 + 11 * l.length) : (bodyZ s a b l ab st).length ≤ 2147483647 := by rw [body_len]; omega
theorem body_own {w : World} {B : Nat} {v : Value} {s : ByteArray} {a b : Int} {l : List ByteArray} {ab : Bool} {st : Int} (h : w.ownsRow B 5 1 v (17 + s.size + (listZ l).length + 9) (bc (idZ s a b) ++ bc (listZ l) ++ bc (stampZ ab st))) : w.ownsRow B 5 1 v (bodyZ s a b l ab st).length (bc (bodyZ s a b l ab st)) := by
  rw [body_len]
  have e : bc (bodyZ s a b l ab st) = bc (idZ s a b) ++ bc (listZ l) ++ bc (stampZ ab st) := by simp [bodyZ, bc]
  rw [e]
  exact h
theorem body_cell {w : World} {g : Nat} {ys : List Int} {o : Obj} (h : ∀ j, j < ys.length → w.cell? ⟨g, j, none⟩ = some (.int .u8 (ys.getD j 0))) (hg : g < w.heap.size) {j : Nat} {u : Value} (hj : (bc ys)[j]? = some u) : (w.alloc o).cell? ((⟨g, 0, none⟩ : Addr).add j) = some u := by
  have hlt : j < ys.length := by have := (List.getElem?_eq_some_iff.1 hj).1; simpa [bc] using this
  have e : u = .int .u8 (ys.getD j 0) := by
    rw [bc, List.getElem?_map, List.getElem?_eq_getElem hlt] at hj
    have := Option.some.inj hj
    rw [← this, List.getD_eq_getElem?_getD, List.getElem?_eq_getElem hlt]; rfl
  rw [e, Addr.add_lit]
  refine Lib.cell?_alloc_some _ ?_
  rw [show 0 + j = j by omega]
  exact h j hlt

set_option maxHeartbeats 40000000 in
theorem dec_any (s : ByteArray) (a b : Int) (g cap : Nat) (l : List ByteArray) (ab : Bool) (st : Int) (ha0 : 0 ≤ a) (ha : a ≤ 18446744073709551615) (hb0 : 0 ≤ b) (hb : b ≤ 18446744073709551615) (h0 : 0 ≤ st) (h1 : st ≤ 18446744073709551615) (w : World)
    (hs : s.size ≤ 4096) (hl : l.length ≤ 1024) (hsz : ∀ x ∈ l, x.size ≤ 10) (hg : g < w.heap.size) (hc : ∀ (j : Nat) (x : ByteArray), l[j]? = some x → w.cell? ⟨g, j, none⟩ = some (.string x)) :
    Calls Yba.prog 13 #[.agg #[.string s, .int .u64 a, .int .u64 b, .slice (some ⟨g, 0, none⟩) l.length cap, .bool ab, .int .u64 st]] w fun e w' => ∃ v', e = .returned v' ∧ w'.ownsRow w.heap.size 5 1 v' (decZ s a b l ab st).length (bc (decZ s a b l ab st)) ∧ Below w.heap.size w w' := by
  have en25 : ∀ args w, (callFunc 25 args).run Yba.prog w = .ok (.enter 25 args) w := enters_of Yba.func25 (by kernel_rfl) rfl
  have en24 : ∀ args w, (callFunc 24 args).run Yba.prog w = .ok (.enter 24 args) w := enters_of Yba.func24 (by kernel_rfl) rfl
  have en23 : ∀ args w, (callFunc 23 args).run Yba.prog w = .ok (.enter 23 args) w := enters_of Yba.func23 (by kernel_rfl) rfl
  have en20 : ∀ args w, (callFunc 20 args).run Yba.prog w = .ok (.enter 20 args) w := enters_of Yba.func20 (by kernel_rfl) rfl
  have HC : Hid (∀ (j : Nat) (x : ByteArray), l[j]? = some x → w.cell? ⟨g, j, none⟩ = some (.string x)) := hc
  have HS : Hid (∀ x ∈ l, x.size ≤ 10) := hsz
  have hll : (listZ l).length ≤ 1 + 11 * l.length := list_len hsz
  clear hc hsz
  go_enter Yba.func13, Yba.ntmps13
  go_wp2_with fail
  have hI : Hid ((w.alloc (decO s a b (.slice (some ⟨g, 0, none⟩) l.length cap) ab st)).heap[w.heap.size]? = some (decO s a b (.slice (some ⟨g, 0, none⟩) l.length cap) ab st)) := heap_alloc_new w _
  refine wp_region_any (by kernel_rfl) (anyI.any (L := 99) (I := fun w' => w'.heap[w.heap.size]? = some (decO s a b (.slice (some ⟨g, 0, none⟩) l.length cap) ab st)) ?_)
  refine takeI (i := 0) (v := .pointer (some ⟨w.heap.size, 0, none⟩)) rfl (by kernel_rfl) (by kernel_rfl) (by kernel_rfl) (by kernel_rfl) (fun _ _ _ h => h) hI.out ⟨by rfl, fun w' h => by go_simp⟩ ?_
  refine takeI (i := 1) (v := .agg #[.string s, .int .u64 a, .int .u64 b]) rfl (by kernel_rfl) (by kernel_rfl) (by kernel_rfl) (by kernel_rfl) (fun _ _ _ h => h) hI.out ⟨by rfl, fun w' h => by
    have c0 := cellLit h 0
    have c1 := cellLit h 1
    have c2 := cellLit h 2
    simp at c0 c1 c2
    go_simp⟩ ?_
  refine takeI (i := 3) (v := .pointer (some ⟨w.heap.size, 3, none⟩)) rfl (by kernel_rfl) (by kernel_rfl) (by kernel_rfl) (by kernel_rfl) (fun _ _ _ h => h) hI.out ⟨by rfl, fun w' h => by go_simp⟩ ?_
  refine takeI (i := 4) (v := .slice (some ⟨g, 0, none⟩) l.length cap) rfl (by kernel_rfl) (by kernel_rfl) (by kernel_rfl) (by kernel_rfl) (fun _ _ _ h => h) hI.out ⟨by rfl, fun w' h => by
    have c0 := cellLit h 3
    simp at c0
    go_simp⟩ ?_
  refine takeI (i := 6) (v := .pointer (some ⟨w.heap.size, 4, none⟩)) rfl (by kernel_rfl) (by kernel_rfl) (by kernel_rfl) (by kernel_rfl) (fun _ _ _ h => h) hI.out ⟨by rfl, fun w' h => by go_simp⟩ ?_
  refine takeI (i := 7) (v := .bool ab) rfl (by kernel_rfl) (by kernel_rfl) (by kernel_rfl) (by kernel_rfl) (fun _ _ _ h => h) hI.out ⟨by rfl, fun w' h => by
    have c0 := cellLit h 4
    simp at c0
    go_simp⟩ ?_
  refine takeI (i := 8) (v := .pointer (some ⟨w.heap.size, 5, none⟩)) rfl (by kernel_rfl) (by kernel_rfl) (by kernel_rfl) (by kernel_rfl) (fun _ _ _ h => h) hI.out ⟨by rfl, fun w' h => by go_simp⟩ ?_
  refine takeI (i := 9) (v := .int .u64 st) rfl (by kernel_rfl) (by kernel_rfl) (by kernel_rfl) (by kernel_rfl) (fun _ _ _ h => h) hI.out ⟨by rfl, fun w' h => by
    have c0 := cellLit h 5
    simp at c0
    go_simp⟩ ?_
  refine oneI (i := 2) rfl (by kernel_rfl) (fun K hK => ?_)
  refine step_call rfl 25 _ _ rfl #[.slice none 0 0, .agg #[.string s, .int .u64 a, .int .u64 b]] (by go_simp) (en25 _ _) (id_any s a b ha0 ha hb0 hb _ hs) ?_
  rintro e w1 ⟨v1, rfl, hown1, hb1⟩
  have hs1 : w.heap.size + 1 ≤ w1.heap.size := by have := hb1.size; simp at this; omega
  have hown1 : w1.ownsRow (w.heap.size + 1) 5 1 v1 (17 + s.size) (bc (idZ s a b)) := by simpa using hown1
  have hb1 : Hid (Below (w.heap.size + 1) (w.alloc (decO s a b (.slice (some ⟨g, 0, none⟩) l.length cap) ab st)) w1) := ⟨hb1.os, hb1.tape, hb1.output, by simpa [decO] using hb1.size, fun k hk => hb1.block k (by simp; omega)⟩
  have hI1 : w1.heap[w.heap.size]? = some (decO s a b (.slice (some ⟨g, 0, none⟩) l.length cap) ab st) := by rw [hb1.out.block _ (by omega)]; exact hI.out
  refine ⟨v1, rfl, hK _ _ (fun _ => hI1) ?_⟩
  clear hK K
  refine oneI (i := 5) rfl (by kernel_rfl) (fun K hK => ?_)
  refine step_call rfl 24 _ _ rfl #[v1, .slice (some ⟨g, 0, none⟩) l.length cap] (by go_simp) (en24 _ _) (list_any (w.heap.size + 1) (17 + s.size) g cap l v1 _ _ hown1 (by omega) (by omega) hl HS.out (by omega) (fun j x hx => (hb1.out.cell (p := ⟨g, j, none⟩) (by show g < _; omega)).trans (Lib.cell?_alloc_some _ (HC.out j x hx)))) ?_
  rintro e w2 ⟨v2, rfl, hown2, hb2⟩
  have hs2 : w.heap.size + 1 ≤ w2.heap.size := by have := hb2.size; omega
  have hb2 : Hid (Below (w.heap.size + 1) (w.alloc (decO s a b (.slice (some ⟨g, 0, none⟩) l.length cap) ab st)) w2) := hb1.out.trans hb2
  have hI2 : w2.heap[w.heap.size]? = some (decO s a b (.slice (some ⟨g, 0, none⟩) l.length cap) ab st) := by rw [hb2.out.block _ (by omega)]; exact hI.out
  refine ⟨v2, rfl, hK _ _ (fun _ => hI2) ?_⟩
  clear hK K hown1 hb1 hI1
  refine oneI (i := 10) rfl (by kernel_rfl) (fun K hK => ?_)
  refine step_call rfl 23 _ _ rfl #[v2, .bool ab, .int .u64 st] (by go_simp) (en23 _ _) (stamp_any (w.heap.size + 1) (17 + s.size + (listZ l).length) ab st h0 h1 v2 _ _ hown2 (by omega) (by omega)) ?_
  rintro e w3 ⟨v3, rfl, hown3, hb3⟩
  have hs3 : w.heap.size + 1 ≤ w3.heap.size := by have := hb3.size; omega
  have hb3 : Hid (Below (w.heap.size + 1) (w.alloc (decO s a b (.slice (some ⟨g, 0, none⟩) l.length cap) ab st)) w3) := hb2.out.trans hb3
  have hI3 : w3.heap[w.heap.size]? = some (decO s a b (.slice (some ⟨g, 0, none⟩) l.length cap) ab st) := by rw [hb3.out.block _ (by omega)]; exact hI.out
  have hown3 : w3.ownsRow (w.heap.size + 1) 5 1 v3 (bodyZ s a b l ab st).length (bc (bodyZ s a b l ab st)) := body_own hown3
  obtain ⟨g3, cap3, hv3, hg3, hgl3, _, _, hc3⟩ := owns_form hown3 (body_pos s a b l ab st)
  subst hv3
  have HC3 : Hid (∀ j, j < (bodyZ s a b l ab st).length → w3.cell? ⟨g3, j, none⟩ = some (.int .u8 ((bodyZ s a b l ab st).getD j 0))) := hc3
  refine ⟨_, rfl, hK _ _ (fun _ => hI3) ?_⟩
  clear hK K hown2 hb2 hI2 hc3 hown3
  refine oneI (i := 11) rfl (by kernel_rfl) (fun K hK => ?_)
  go_simp
  refine hK _ _ (fun _ => blk_alloc hI3) ?_
  clear hK K
  refine oneI (i := 12) rfl (by kernel_rfl) (fun K hK => ?_)
  refine step_call rfl 20 _ _ rfl #[.slice none 0 0, .int .u8 79, .slice (some ⟨w3.heap.size, 0, none⟩) 1 1] (by go_simp) (en20 _ _) (frame_any 79 g3 (bodyZ s a b l ab st).length cap3 w3.heap.size (bodyZ s a b l ab st) (w3.alloc (.cells #[.slice (some ⟨g3, 0, none⟩) (bodyZ s a b l ab st).length cap3] 23)) rfl (body_le s a b l ab st hs hl hll) (fun j u hj => body_cell HC3.out hgl3 hj) (by simp; omega) (by simp) (by simp)) ?_
  rintro e w4 ⟨v4, rfl, hown4, hb4⟩
  refine ⟨v4, rfl, hK _ _ ?_ ?_⟩
  · intro _; rw [hb4.block _ (by simp; omega)]; exact blk_alloc hI3
  clear hK K
  refine oneI (i := 13) rfl (by kernel_rfl) (fun K hK => ?_)
  go_simp
  refine hK _ _ (fun _ => by rw [hb4.block _ (by simp; omega)]; exact blk_alloc hI3) ?_
  clear hK K
  refine doneI (by kernel_rfl) ?_ _
  go_wp2
  go_ret
  refine ⟨v4, rfl, ?_, ?_⟩
  · have e1 : (decZ s a b l ab st).length = 5 + (bodyZ s a b l ab st).length := by simp only [decZ, List.length_append, List.length_cons, beZ_length]; omega
    rw [e1]
    exact owns_mono hown4 (by simp; omega)
  · have b3 : Below w.heap.size w w3 := ((Below.refl _ w).alloc (Nat.le_refl _) _).trans (hb3.out.mono (by omega))
    exact (b3.alloc b3.size _).trans (hb4.mono (by simp; omega))
end Go.Proofs.Ybulkakzq.Dec
