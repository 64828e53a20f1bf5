/-
  LawS1851BExact: the walk.
-/
import Derived.Test.YbulkalhsCycles
import Derived.Test.YbulkalhsGraph2
import Derived.Deep.QuietTactic
import Derived.BigQuiet
namespace Go.Proofs.Ybulkalhs.Law
open Go.RowKit Blocks Mem Graph Cycles
set_option linter.unusedVariables false
set_option maxRecDepth 100000

theorem info4 : (Yba.prog.info? 4).map (fun i => (i.zero, i.size, i.bytes)) = some (some (.bool false), 1, 1) := by kernel_rfl

/-- Where node j leads to. -/
def zf (n : Nat) (g : Nat → Int) (j : Nat) : Int := if g j < 0 then g j else g j % n
def zsOf (n : Nat) (g : Nat → Int) : List Int := (List.range n).map (zf n g)

theorem zs_at {n : Nat} {g : Nat → Int} {j : Nat} (h : j < n) : (zsOf n g)[j]? = some (zf n g j) := by simp [zsOf, h]
theorem zs_of {n : Nat} {g : Nat → Int} {j : Nat} {z : Int} (h : (zsOf n g)[j]? = some z) : j < n ∧ z = zf n g j := by
  have hj : j < n := by have := (List.getElem?_eq_some_iff.1 h).1; simpa [zsOf] using this
  rw [zs_at hj] at h
  exact ⟨hj, (Option.some.inj h).symm⟩
theorem zf_lt {n : Nat} {g : Nat → Int} {j : Nat} (h : j < n) : zf n g j < n := by
  unfold zf
  split
  · omega
  · exact Int.emod_lt_of_pos _ (by omega)

theorem Row.put {w : World} {b T n k : Nat} {f f' : Nat → Value} {v : Value} (h : Row w b T n f) (he : ∀ j, j < n → (if j = k then v else f j) = f' j) : Row (w.setCell ⟨b, k, none⟩ v) b T n f' := (h.set k v).congr he

theorem nx_zf {n : Nat} {g : Nat → Int} {m : Nat} (h : m < n) : nx (zsOf n g) m = if 0 ≤ zf n g m then some (zf n g m).toNat else none := by
  by_cases e : 0 ≤ zf n g m
  · rw [if_pos e]; exact nx_some (zs_at h) e
  · rw [if_neg e]; exact nx_none (zs_at h) (by omega)

/-- Where the walk of t steps from s stands: at i, or nowhere. -/
def Lk (N : Nat → Option Nat) (t s : Nat) (i : Int) : Prop := it N t s = if 0 ≤ i then some i.toNat else none

theorem Lk.start (N : Nat → Option Nat) (s : Nat) : Lk N 0 s (s : Int) := by simp [Lk, it]
theorem Lk.next {n : Nat} {g : Nat → Int} {t s m : Nat} (h : Lk (nx (zsOf n g)) t s (m : Int)) (hm : m < n) : Lk (nx (zsOf n g)) (t + 1) s (zf n g m) := by
  have h1 : it (nx (zsOf n g)) t s = some m := by simpa [Lk] using h
  show (it (nx (zsOf n g)) t s).bind (nx (zsOf n g)) = _
  rw [h1]
  exact nx_zf hm
theorem Lk.at {N : Nat → Option Nat} {t s m : Nat} (h : Lk N t s (m : Int)) : it N t s = some m := by simpa [Lk] using h
theorem Lk.gone {N : Nat → Option Nat} {t s : Nat} {i : Int} (h : Lk N t s i) (hi : i < 0) : it N t s = none := by rw [h, if_neg (by omega)]

/-- The cells of what was found. -/
def FC (w : World) (ao : Option Addr) (found : List (List Nat)) : Prop := ∀ (k : Nat) (c : List Nat), found[k]? = some c → ∃ fb b o cp, ao = some ⟨fb, 0, none⟩ ∧ fb < w.heap.size ∧ w.cell? ⟨fb, k, none⟩ = some (.slice (some ⟨b, o, none⟩) c.length cp) ∧ c.length ≤ cp ∧ b < w.heap.size ∧ ∀ j, j < c.length → w.cell? ⟨b, o + j, none⟩ = some (.int .i64 (c.getD j 0 : Nat))

theorem FC.of {w : World} {B cap : Nat} {ao : Option Addr} {cs : List Value} {M : List (Nat × Array Value)} {found : List (List Nat)} (hO : w.ownsRow B 23 1 (.slice ao cs.length cap) cs.length cs) (hM : Holds w M) (hF : IsFound M cs found) : FC w ao found := by
  intro k c hk
  obtain ⟨b, o, cp, cur, h1, h0, h2, h3⟩ := hF.2 k c hk
  have hkl : k < cs.length := (List.getElem?_eq_some_iff.1 h1).1
  obtain ⟨g, cap', hv, _, hgl, _, _, hgc, _⟩ := owns_row hO (by omega)
  simp only [Value.slice.injEq, true_and] at hv
  obtain ⟨rfl, rfl⟩ := hv
  refine ⟨g, b, o, cp, rfl, hgl, hgc k _ h1, h0, blk_lt (hM b cur h2), fun j hj => ?_⟩
  rw [blk_cell (hM b cur h2)]
  exact h3 j hj

theorem FC.below {w w' : World} {ao : Option Addr} {found : List (List Nat)} (h : FC w ao found) (hb : Below w.heap.size w w') : FC w' ao found := by
  intro k c hk
  obtain ⟨fb, b, o, cp, h1, h2, h3, h4, h5, h6⟩ := h k c hk
  exact ⟨fb, b, o, cp, h1, Nat.lt_of_lt_of_le h2 hb.size, (hb.cell (p := ⟨fb, k, none⟩) h2).trans h3, h4, Nat.lt_of_lt_of_le h5 hb.size, fun j hj => (hb.cell (p := ⟨b, o + j, none⟩) h5).trans (h6 j hj)⟩

def Fs (found : List (List Nat)) : List Nat := found.flatten
def cF (found : List (List Nat)) (v : Nat) : Nat := ((List.range v).filter (fun u => decide (u ∈ Fs found))).length

theorem filt_succ (F : List Nat) (k : Nat) : ((List.range (k + 1)).filter (fun v => decide (v ∈ F))).length = ((List.range k).filter (fun v => decide (v ∈ F))).length + (if k ∈ F then 1 else 0) := by
  rw [List.range_succ, List.filter_append, List.length_append]
  by_cases h : k ∈ F <;> simp [h]

theorem cF_succ (found : List (List Nat)) (k : Nat) : cF found (k + 1) = cF found k + (if k ∈ Fs found then 1 else 0) := filt_succ _ _
theorem cF_le (found : List (List Nat)) (k : Nat) : cF found k ≤ k := by
  have := List.length_filter_le (fun u => decide (u ∈ Fs found)) (List.range k)
  rw [List.length_range] at this
  exact this

/-- The marks of the nodes on cycles, of the first v. -/
def onB (found : List (List Nat)) (v j : Nat) : Bool := decide (j < v ∧ j ∈ Fs found)
theorem on_self (found : List (List Nat)) (v : Nat) : onB found v v = false := by simp [onB]
theorem on_zero (found : List (List Nat)) (j : Nat) : onB found 0 j = false := by simp [onB]
theorem on_put {found : List (List Nat)} {v : Nat} (h : v ∈ Fs found) (j : Nat) : (if j = v then Value.bool true else .bool (onB found v j)) = .bool (onB found (v + 1) j) := by
  by_cases e : j = v
  · subst e; rw [if_pos rfl]; simp [onB, h]
  · rw [if_neg e]
    congr 1
    simp only [onB, decide_eq_decide]
    exact ⟨fun h => ⟨by omega, h.2⟩, fun h => ⟨by omega, h.2⟩⟩
theorem on_skip {found : List (List Nat)} {v : Nat} (h : v ∉ Fs found) (j : Nat) : Value.bool (onB found v j) = .bool (onB found (v + 1) j) := by
  congr 1
  simp only [onB, decide_eq_decide]
  exact ⟨fun h => ⟨by omega, h.2⟩, fun h1 => ⟨by
    have : j ≠ v := fun e => h (e ▸ h1.2)
    omega, h1.2⟩⟩
theorem on_all {found : List (List Nat)} {k j : Nat} (h : j < k) : onB found k j = decide (j ∈ Fs found) := by
  simp only [onB, decide_eq_decide]
  exact ⟨fun h => h.2, fun h1 => ⟨h, h1⟩⟩

def tot (found : List (List Nat)) (a : Nat) : Nat := (found.take a).flatten.length
theorem tot_succ {found : List (List Nat)} {a : Nat} {c : List Nat} (h : found[a]? = some c) : tot found (a + 1) = tot found a + c.length := by
  have ha : a < found.length := (List.getElem?_eq_some_iff.1 h).1
  have := total_succ ha
  rw [List.getD_eq_getElem?_getD, h] at this
  exact this
theorem tot_all (found : List (List Nat)) : tot found found.length = (Fs found).length := by unfold tot Fs; rw [List.take_of_length_le (Nat.le_refl _)]
theorem tot_le {n : Nat} {N : Nat → Option Nat} {found : List (List Nat)} {cnt : Nat → Nat} (hA : Ans n N found cnt) (a : Nat) : tot found a ≤ n := by
  have h1 : tot found a ≤ found.flatten.length := by
    unfold tot
    have : (found.take a).flatten.length + (found.drop a).flatten.length = found.flatten.length := by
      rw [← List.length_append, ← List.flatten_append, List.take_append_drop]
    omega
  exact Nat.le_trans h1 (nodup_le hA.nodup hA.lt)

/-- The numbers while list a is being written. -/
def idm (found : List (List Nat)) (a : Nat) (c : List Nat) (j u : Nat) : Int := if u ∈ c.take j then (a : Int) else idn found a u
theorem idm_zero (found : List (List Nat)) (a : Nat) (c : List Nat) (u : Nat) : idm found a c 0 u = idn found a u := by simp [idm]
theorem idm_all {found : List (List Nat)} {a : Nat} {c : List Nat} (h : found[a]? = some c) (u : Nat) : idm found a c c.length u = idn found (a + 1) u := by
  show _ = (if u ∈ found.getD a [] then (a : Int) else idn found a u)
  rw [idm, List.take_of_length_le (Nat.le_refl _), List.getD_eq_getElem?_getD, h]
  rfl
theorem take_snoc {c : List Nat} {j : Nat} (h : j < c.length) : c.take (j + 1) = c.take j ++ [c.getD j 0] := by
  rw [List.take_add_one, List.getD_eq_getElem?_getD, List.getElem?_eq_getElem h]; rfl
theorem idm_put {found : List (List Nat)} {a : Nat} {c : List Nat} {j : Nat} (h : j < c.length) (u : Nat) : (if u = c.getD j 0 then Value.int .i64 (a : Int) else .int .i64 (idm found a c j u)) = .int .i64 (idm found a c (j + 1) u) := by
  by_cases e : u = c.getD j 0
  · rw [if_pos e, idm, if_pos (by rw [take_snoc h, e]; simp)]
  · rw [if_neg e]
    unfold idm
    by_cases e2 : u ∈ c.take j
    · rw [if_pos e2, if_pos (by rw [take_snoc h]; simp [e2])]
    · rw [if_neg e2, if_neg (by rw [take_snoc h]; simp only [List.mem_append, List.mem_singleton, not_or]; exact ⟨e2, e⟩)]
theorem idm_new {n : Nat} {N : Nat → Option Nat} {found : List (List Nat)} {cnt : Nat → Nat} (hA : Ans n N found cnt) {a : Nat} {c : List Nat} (h : found[a]? = some c) {j : Nat} (hj : j < c.length) : idm found a c j (c.getD j 0) = -1 := by
  have hd : found.getD a [] = c := by rw [List.getD_eq_getElem?_getD, h]; rfl
  have hnd : c.Nodup := hd ▸ nodup_at hA.nodup a
  have hin : c.getD j 0 ∈ found.getD a [] := by rw [hd]; exact getD_mem hj
  unfold idm
  rw [if_neg, idn_none (fun b hb hm => by have := uniq hA.nodup hin hm; omega)]
  intro hm
  have hx : c.getD j 0 ∈ c.drop j := by
    have : (c.drop j).getD 0 0 = c.getD j 0 := by simp [List.getD_eq_getElem?_getD]
    rw [← this]
    exact getD_mem (by simp; omega)
  rw [← List.take_append_drop j c, List.nodup_append] at hnd
  exact hnd.2.2 _ hm _ hx rfl

/-- One list of the found ones: what the law reads of it. -/
theorem list_facts {n : Nat} {g : Nat → Int} {found : List (List Nat)} {cnt : Nat → Nat} (hA : Ans n (nx (zsOf n g)) found cnt) {a : Nat} {c : List Nat} (h : found[a]? = some c) :
    0 < c.length ∧ c.length ≤ n ∧ (∀ j, j < c.length → c.getD j 0 < n ∧ c.getD j 0 ∈ Fs found ∧ zf n g (c.getD j 0) = (c.getD ((j + 1) % c.length) 0 : Nat)) := by
  have ha : a < found.length := (List.getElem?_eq_some_iff.1 h).1
  have hd : found.getD a [] = c := by rw [List.getD_eq_getElem?_getD, h]; rfl
  have hc := hA.cycAt ha
  rw [hd] at hc
  refine ⟨hc.pos, hd ▸ hA.lenAt a, fun j hj => ?_⟩
  have hm : c.getD j 0 ∈ Fs found := (mem_flat (a := a) (by rw [hd]; exact getD_mem hj)).1
  have hlt := hA.lt _ hm
  refine ⟨hlt, hm, ?_⟩
  have h1 := hc.2 j hj
  rw [nx_zf hlt] at h1
  split at h1
  · have := Option.some.inj h1
    omega
  · cases h1

theorem tot_count {n : Nat} {N : Nat → Option Nat} {found : List (List Nat)} {cnt : Nat → Nat} (hA : Ans n N found cnt) : tot found found.length = cF found n := by rw [tot_all]; exact hA.count.symm

/-- The cycles that have been met before start s. -/
def metB (cnt : Nat → Nat) (s q : Nat) : Bool := decide (q < cnt s)
theorem met_put {cnt : Nat → Nat} {s : Nat} (h : cnt (s + 1) = cnt s + 1) (q : Nat) : (if q = cnt s then Value.bool true else .bool (metB cnt s q)) = .bool (metB cnt (s + 1) q) := by
  unfold metB
  rw [h]
  by_cases e : q = cnt s
  · rw [if_pos e, decide_eq_true (by omega)]
  · rw [if_neg e]
    congr 1
    simp only [decide_eq_decide]
    omega
theorem met_same {cnt : Nat → Nat} {s : Nat} (h : cnt (s + 1) = cnt s) (q : Nat) : Value.bool (metB cnt s q) = .bool (metB cnt (s + 1) q) := by unfold metB; rw [h]

set_option maxHeartbeats 16000000 in
theorem walk_short (a0 : Option Addr) (n cap : Nat) (g : Nat → Int) (w : World) (hle : n ≤ 1024) (hg : ∀ j, j < n → -32768 ≤ g j ∧ g j ≤ 32767)
    (hraw : ∀ j, j < n → ∃ b off, a0 = some ⟨b, off, none⟩ ∧ b < w.heap.size ∧ w.cell? ⟨b, off + j, none⟩ = some (.int .i16 (g j))) :
    Calls Yba.prog 3 #[.slice a0 n cap] w fun e w' => e = .returned (.bool true) ∧ Below w.heap.size w w' := by
  obtain ⟨i3, hi3, hz30, hz31, hz32⟩ := info_parts info3
  obtain ⟨i4, hi4, hz40, hz41, hz42⟩ := info_parts info4
  have HR : Hid (∀ j, j < n → ∃ b off, a0 = some ⟨b, off, none⟩ ∧ b < w.heap.size ∧ w.cell? ⟨b, off + j, none⟩ = some (.int .i16 (g j))) := hraw
  have HG : Hid (∀ j, j < n → -32768 ≤ g j ∧ g j ≤ 32767) := hg
  clear hraw hg
  have hb : ¬ (1024 : Int) < (n : Int) := by omega
  go_enter Yba.func3, Yba.ntmps3
  go_wp2_with (at_make; refine wpList_make_full _ rfl (.tmp 32) (.tmp 32) 23 rfl w.heap.size 3 i3 (.int .i64 0) 1 Yba.underlying23 hi3 hz30 hz31 _ _ _ _ n rfl rfl rfl rfl ?m2 ?m3 ?m4 ?_)
  case m2 => omega
  case m3 => unfold maxLen; omega
  intro w1 hown1 hgr1
  have hN0 : Hid (Row w1 w.heap.size 3 n (fun _ => .int .i64 0)) := row_made hown1
  have hB0 : Hid (Below w.heap.size w w1) := (Below.refl _ w).grown hgr1 (Nat.le_refl _) (fun k hk => by simp at hk)
  clear hown1 hgr1
  go_wp2_with fail
  go_loopw [5, 6] (fun s5 _ wr => ∃ k : Nat, k ≤ n ∧ s5 = .int .i64 k ∧ Hid (Row wr w.heap.size 3 n (fun j => .int .i64 (if j < k then zf n g j else 0))) ∧ Hid (Below w.heap.size w wr)) (fun s5 _ _ => n - (intOf s5).toNat)
  case atStart => exact ⟨0, Nat.zero_le _, rfl, Hid.mk' (hN0.out.congr (fun j _ => by simp)), hB0⟩
  case round =>
    obtain ⟨k, hk, rfl, hN, hB⟩ := hrel
    by_cases hlt : k < n
    · have hltz : (k : Int) < (n : Int) := by omega
      obtain ⟨b, off, rfl, hbl, hcell⟩ := HR.out k hlt
      have hcr : wr.cell? ⟨b, off + k, none⟩ = some (.int .i16 (g k)) := (hB.out.cell (p := ⟨b, off + k, none⟩) hbl).trans hcell
      obtain ⟨hg1, hg2⟩ := HG.out k hlt
      have hcn := hN.out.cell hlt
      have hfn := hN.out.free k
      simp only [show ¬ k < k by omega, if_false] at hcn
      have hset : Hid (∀ z, z = zf n g k → Row (wr.setCell ⟨w.heap.size, k, none⟩ (.int .i64 z)) w.heap.size 3 n (fun j => .int .i64 (if j < k + 1 then zf n g j else 0))) := fun z hz => Row.put hN.out (fun j hj => by
        by_cases e : j = k
        · subst e; rw [if_pos rfl, if_pos (by omega), hz]
        · rw [if_neg e]
          by_cases e2 : j < k
          · rw [if_pos e2, if_pos (by omega)]
          · rw [if_neg e2, if_neg (by omega)])
      have hB2 : Hid (∀ z, Below w.heap.size w (wr.setCell ⟨w.heap.size, k, none⟩ z)) := fun z => hB.out.setCell (p := ⟨w.heap.size, k, none⟩) (Nat.le_refl _) z
      have hzf : Hid (zf n g k = if g k < 0 then g k else g k % n) := Hid.mk' rfl
      clear hcell
      generalize g k = r at hcr hg1 hg2 hzf
      by_cases hr : r < 0
      · have hrz : Hid (r = zf n g k) := Hid.mk' (by rw [hzf.out, if_pos hr])
        go_wp2
        exact ⟨⟨k + 1, by omega, rfl, Hid.mk' (hset.out _ hrz.out), Hid.mk' (hB2.out _)⟩, by simp [intOf]; omega⟩
      · have hrz : Hid (r % n = zf n g k) := Hid.mk' (by rw [hzf.out, if_neg hr])
        go_wp2
        exact ⟨⟨k + 1, by omega, rfl, Hid.mk' (hset.out _ hrz.out), Hid.mk' (hB2.out _)⟩, by simp [intOf]; omega⟩
    · have hge : ¬ ((k : Int) < (n : Int)) := by omega
      obtain rfl : k = n := by omega
      have hNx : Row wr w.heap.size 3 k (fun j => .int .i64 (zf k g j)) := hN.out.congr (fun j hj => by rw [if_pos hj])
      have hsz : w.heap.size < wr.heap.size := hNx.lt
      have hcy := cycles_any w.heap.size k k (zsOf k g) wr (by simp [zsOf]) hle (fun j z h => by obtain ⟨hj, rfl⟩ := zs_of h; exact zf_lt hj) (fun j z h => by obtain ⟨hj, rfl⟩ := zs_of h; exact hNx.cell hj)
      have hNX := Hid.mk' hNx
      clear hNx hN
      go_wp2_with fail
      refine hcy.mono ?_
      rintro e w2 ⟨v7, rfl, cs, M, found, cnt, hb2, hM, hO, hF, hA⟩
      clear hcy
      have hN2 : Hid (Row w2 w.heap.size 3 k (fun j => .int .i64 (zf k g j))) := hNX.out.below hb2 hsz
      have hBw : Hid (Below w.heap.size w w2) := hB.out.trans (hb2.mono (Nat.le_of_lt hsz))
      obtain ⟨ao7, cap7, hv7, _⟩ := owns_any hO
      subst hv7
      have hFC : Hid (FC w2 ao7 found) := FC.of hO hM hF
      have hcl : cs.length = found.length := hF.1
      rw [hcl]
      have hA : Hid (Ans k (nx (zsOf k g)) found cnt) := hA
      have hfl : found.length ≤ k := hA.out.lenAll
      clear hb2 hM hO hF hcl hB hNX hsz hN0 hB0
      have hsz2 : w.heap.size < w2.heap.size := hN2.out.lt
      go_wp2_with (at_make; refine wpList_make_full _ rfl (.tmp 59) (.tmp 59) 27 rfl w2.heap.size 4 i4 (.bool false) 1 Yba.underlying27 hi4 hz40 hz41 _ _ _ _ k rfl rfl rfl rfl ?n2 ?n3 (Nat.le_refl _) ?_)
      case n2 => rw [hz42]; omega
      case n3 => unfold maxLen; omega
      intro w3 hown3 hgr3
      have hO3 : Hid (Row w3 w2.heap.size 4 k (fun _ => .bool false)) := row_made hown3
      have hB3 : Hid (Below w2.heap.size w2 w3) := (Below.refl _ w2).grown hgr3 (Nat.le_refl _) (fun k hk => by simp at hk)
      clear hown3 hgr3
      go_wp2_with fail
      go_loopg [9, 10, 11, 12] k (fun gg s9 s10 _ _ wr => ∃ v : Nat, v ≤ k ∧ k - v ≤ gg ∧ s10 = .int .i64 v ∧ s9 = .int .i64 (cF found v : Nat) ∧ Hid (Row wr w2.heap.size 4 k (fun j => .bool (onB found v j))) ∧ Hid (Below w2.heap.size w2 wr))
      case atStart => exact ⟨0, Nat.zero_le _, by omega, rfl, rfl, Hid.mk' (hO3.out.congr (fun j _ => by rw [on_zero])), hB3⟩
      case round =>
        obtain ⟨v, hv, hgg, rfl, rfl, hR, hBr⟩ := hrel
        by_cases hlt : v < k
        · have hltz : (v : Int) < (k : Int) := by omega
          have hNr : Hid (Row wr w.heap.size 3 k (fun j => .int .i64 (zf k g j))) := hN2.out.below hBr.out hsz2
          have hcv := hNr.out.cell hlt
          obtain ⟨wo, hwo⟩ : ∃ wo, wo = wr := ⟨_, rfl⟩
          subst hwo
          go_wp2_with fail
          go_loopg [11, 12] k (fun gg s11 s12 wt => ∃ (i : Int) (t : Nat), t ≤ k ∧ k - t ≤ gg ∧ i < k ∧ s11 = .int .i64 i ∧ s12 = .int .i64 t ∧ wo = wt ∧ Hid (Lk (nx (zsOf k g)) (t + 1) v i) ∧ Hid (∀ m, 1 ≤ m → m ≤ t → it (nx (zsOf k g)) m v ≠ some v))
          case atStart => exact ⟨zf k g v, 0, Nat.zero_le _, by omega, zf_lt hlt, rfl, rfl, rfl, Hid.mk' ((Lk.start _ v).next hlt), Hid.mk' (fun m h1 h2 => by omega)⟩
          case round =>
            obtain ⟨i, t, ht, hg2, hin, rfl, rfl, rfl, hL, hno⟩ := hrel
            go_upto_region 20 with fail
            go_cut [81] (fun s81 wx => wo = wx ∧ s81 = .bool (decide (t < k ∧ 0 ≤ i ∧ i ≠ v)))
            case first =>
              by_cases h1 : t < k
              · have h1z : (t : Int) < (k : Int) := by omega
                by_cases h2 : 0 ≤ i
                · by_cases h3 : i = v
                  · subst h3
                    go_wp2
                    go_meet
                    exact ⟨rfl, by rw [decide_eq_false (fun h => h.2.2 rfl)]⟩
                  · have h3b : (i == (v : Int)) = false := by simpa using h3
                    have h3c : (i != (v : Int)) = true := by simpa using h3
                    have H3 : Hid (t < k ∧ 0 ≤ i ∧ i ≠ v) := ⟨h1, h2, h3⟩
                    go_wp2
                    go_meet
                    exact ⟨rfl, by rw [decide_eq_true H3.out]⟩
                · have H3 : Hid (¬ (t < k ∧ 0 ≤ i ∧ i ≠ v)) := fun h => h2 h.2.1
                  go_wp2
                  go_meet
                  exact ⟨rfl, by rw [decide_eq_false H3.out]⟩
              · have h1z : ¬ (t : Int) < (k : Int) := by omega
                have H3 : Hid (¬ (t < k ∧ 0 ≤ i ∧ i ≠ v)) := fun h => h1 h.1
                go_wp2
                go_meet
                exact ⟨rfl, by rw [decide_eq_false H3.out]⟩
            case rest =>
              obtain ⟨rfl, rfl⟩ := hcut
              by_cases hcond : t < k ∧ 0 ≤ i ∧ i ≠ v
              · rw [decide_eq_true hcond]
                obtain ⟨h1, h2, h3⟩ := hcond
                obtain ⟨m, rfl⟩ : ∃ m : Nat, i = m := ⟨i.toNat, by omega⟩
                have hmk : m < k := by omega
                have hcm := hNr.out.cell hmk
                have H3 : Hid (m ≠ v) := fun e => h3 (by rw [e])
                have hL2 : Hid (Lk (nx (zsOf k g)) (t + 1 + 1) v (zf k g m)) := hL.out.next hmk
                have hzl : Hid (zf k g m < k) := zf_lt hmk
                clear h3
                generalize zf k g m = z at hcm hL2 hzl
                go_wp2
                go_roundg (k - (t + 1))
                case measure => omega
                case rel =>
                  refine ⟨z, t + 1, by omega, Nat.le_refl _, hzl.out, rfl, rfl, rfl, hL2, Hid.mk' (fun q h1 h2 => ?_)⟩
                  by_cases e : q = t + 1
                  · subst e; rw [hL.out.at]; exact fun e => H3.out (Option.some.inj e)
                  · exact hno.out q h1 (by omega)
              · rw [decide_eq_false hcond]
                have hiv : Hid (i = v ↔ v ∈ Fs found) := by
                  have h1 := hA.out.first hlt hL.out hno.out (by
                    by_cases a1 : t < k
                    · by_cases a2 : 0 ≤ i
                      · have a3 : i = v := by
                          rcases Classical.em (i = v) with h | h
                          · exact h
                          · exact absurd ⟨a1, a2, h⟩ hcond
                        exact .inr (.inr (by rw [if_pos a2, a3]; rfl))
                      · exact .inr (.inl (by rw [if_neg a2]))
                    · exact .inl (by omega))
                  refine Iff.trans ?_ h1
                  by_cases a2 : 0 ≤ i
                  · rw [if_pos a2]
                    exact ⟨fun e => by rw [e]; rfl, fun e => by have := Option.some.inj e; omega⟩
                  · rw [if_neg a2]
                    exact ⟨fun e => absurd (by omega) a2, fun e => by cases e⟩
                clear hcond
                have hcs := hR.out.cell hlt
                have hfs := hR.out.free v
                rw [on_self] at hcs
                by_cases hvF : v ∈ Fs found
                · obtain rfl := hiv.out.2 hvF
                  have hR2 : Hid (Row (wo.setCell ⟨w2.heap.size, v, none⟩ (.bool true)) w2.heap.size 4 k (fun j => .bool (onB found (v + 1) j))) := Row.put hR.out (fun j hj => on_put hvF j)
                  have hB2 : Hid (Below w2.heap.size w2 (wo.setCell ⟨w2.heap.size, v, none⟩ (.bool true))) := hBr.out.setCell (p := ⟨w2.heap.size, v, none⟩) (Nat.le_refl _) _
                  have hct : Hid (cF found (v + 1) = cF found v + 1) := by
                    show _ = _
                    rw [cF_succ, if_pos hvF]
                  have hcl : cF found v ≤ v := cF_le found v
                  clear hvF hiv
                  generalize cF found v = q at hct hcl ⊢
                  go_wp2
                  go_roundg (k - (v + 1))
                  case measure => omega
                  case rel => exact ⟨v + 1, by omega, Nat.le_refl _, rfl, by rw [hct.out]; rfl, hR2, hB2⟩
                · have hne : ¬ i = v := fun e => hvF (hiv.out.1 e)
                  have hneb : (i == (v : Int)) = false := by simpa using hne
                  have hR2 : Hid (Row wo w2.heap.size 4 k (fun j => .bool (onB found (v + 1) j))) := hR.out.congr (fun j hj => on_skip hvF j)
                  have hct : Hid (cF found (v + 1) = cF found v) := by
                    show _ = _
                    rw [cF_succ, if_neg hvF]; rfl
                  clear hvF hiv
                  generalize cF found v = q at hct ⊢
                  go_wp2
                  go_roundg (k - (v + 1))
                  case measure => omega
                  case rel => exact ⟨v + 1, by omega, Nat.le_refl _, rfl, by rw [hct.out], hR2, hBr⟩
        · have hge : ¬ ((v : Int) < (k : Int)) := by omega
          obtain rfl : k = v := by omega
          obtain ⟨w4, hw4⟩ : ∃ w4, w4 = wr := ⟨_, rfl⟩
          subst hw4
          have hN4 : Hid (Row w4 w.heap.size 3 k (fun j => .int .i64 (zf k g j))) := hN2.out.below hBr.out hsz2
          have hFC4 : Hid (FC w4 ao7 found) := hFC.out.below hBr.out
          have hBw4 : Hid (Below w.heap.size w w4) := hBw.out.trans (hBr.out.mono (Nat.le_of_lt hsz2))
          have hsz4 : w2.heap.size < w4.heap.size := hR.out.lt
          clear hN2 hFC hBw hBr hO3 hB3
          go_wp2_with (at_make; refine wpList_make_full _ rfl (.tmp 96) (.tmp 96) 23 rfl w4.heap.size 3 i3 (.int .i64 0) 1 Yba.underlying23 hi3 hz30 hz31 _ _ _ _ k rfl rfl rfl rfl ?o2 ?o3 (Nat.le_refl _) ?_)
          case o2 => omega
          case o3 => unfold maxLen; omega
          intro w5 hown5 hgr5
          have hI5 : Hid (Row w5 w4.heap.size 3 k (fun _ => .int .i64 0)) := row_made hown5
          have hB5 : Hid (Below w4.heap.size w4 w5) := (Below.refl _ w4).grown hgr5 (Nat.le_refl _) (fun k hk => by simp at hk)
          clear hown5 hgr5
          go_wp2_with fail
          go_loopg [14] k (fun gg s14 wr => ∃ v : Nat, v ≤ k ∧ k - v ≤ gg ∧ s14 = .int .i64 v ∧ Hid (Row wr w4.heap.size 3 k (fun j => .int .i64 (if j < v then -1 else 0))) ∧ Hid (Below w4.heap.size w4 wr))
          case atStart => exact ⟨0, Nat.zero_le _, by omega, rfl, Hid.mk' (hI5.out.congr (fun j _ => by simp)), hB5⟩
          case round =>
            obtain ⟨v, hv, hgg, rfl, hI, hBr⟩ := hrel
            by_cases hlt : v < k
            · have hltz : (v : Int) < (k : Int) := by omega
              have hcv := hI.out.cell hlt
              have hfv := hI.out.free v
              simp only [show ¬ v < v by omega, if_false] at hcv
              have hI2 : Hid (Row (wr.setCell ⟨w4.heap.size, v, none⟩ (.int .i64 (-1))) w4.heap.size 3 k (fun j => .int .i64 (if j < v + 1 then -1 else 0))) := Row.put hI.out (fun j hj => by
                by_cases e : j = v
                · subst e; rw [if_pos rfl, if_pos (by omega)]
                · rw [if_neg e]
                  by_cases e2 : j < v
                  · rw [if_pos e2, if_pos (by omega)]
                  · rw [if_neg e2, if_neg (by omega)])
              have hB2 : Hid (Below w4.heap.size w4 (wr.setCell ⟨w4.heap.size, v, none⟩ (.int .i64 (-1)))) := hBr.out.setCell (p := ⟨w4.heap.size, v, none⟩) (Nat.le_refl _) _
              go_wp2
              go_roundg (k - (v + 1))
              case measure => omega
              case rel => exact ⟨v + 1, by omega, Nat.le_refl _, rfl, hI2, hB2⟩
            · have hge : ¬ ((v : Int) < (k : Int)) := by omega
              have hI3 : Hid (Row wr w4.heap.size 3 k (fun j => .int .i64 (idn found 0 j))) := hI.out.congr (fun j hj => by rw [if_pos (by omega)]; rfl)
              clear hI hI5 hB5
              go_wp2_with fail
              go_loopg [15, 16, 17, 19, 20, 21, 108] found.length (fun gg s15 _ _ _ _ _ s108 wr => ∃ a : Nat, a ≤ found.length ∧ found.length - a ≤ gg ∧ s108 = .int .i64 a ∧ s15 = .int .i64 (tot found a : Nat) ∧ Hid (Row wr w4.heap.size 3 k (fun j => .int .i64 (idn found a j))) ∧ Hid (Below w4.heap.size w4 wr))
              case atStart => exact ⟨0, Nat.zero_le _, by omega, rfl, rfl, hI3, hBr⟩
              case round =>
                obtain ⟨a, ha, hgg2, rfl, rfl, hI, hBr⟩ := hrel
                by_cases hla : a < found.length
                · have hlaz : (a : Int) < (found.length : Int) := by omega
                  obtain ⟨c, hca⟩ : ∃ c, found[a]? = some c := ⟨_, List.getElem?_eq_getElem hla⟩
                  obtain ⟨hc0, hcn, hlf⟩ := list_facts hA.out hca
                  have HLF : Hid (∀ j, j < c.length → c.getD j 0 < k ∧ c.getD j 0 ∈ Fs found ∧ zf k g (c.getD j 0) = (c.getD ((j + 1) % c.length) 0 : Nat)) := hlf
                  have hCA : Hid (found[a]? = some c) := hca
                  obtain ⟨fb, b, o, cp, rfl, hfb, hfc, hcp, hbl, hcc⟩ := hFC4.out a c hca
                  have hfr : wr.cell? ⟨fb, a, none⟩ = some (.slice (some ⟨b, o, none⟩) c.length cp) := (hBr.out.cell (p := ⟨fb, a, none⟩) hfb).trans hfc
                  have HCC : Hid (∀ wx, Below w4.heap.size w4 wx → ∀ j, j < c.length → wx.cell? ⟨b, o + j, none⟩ = some (.int .i64 (c.getD j 0 : Nat))) := fun wx hx j hj => (hx.cell (p := ⟨b, o + j, none⟩) hbl).trans (hcc j hj)
                  have hcz : ((c.length : Int) == 0) = false := by rw [beq_eq_false_iff_ne]; omega
                  have hcz2 : ¬ ((c.length : Int) = 0) := by omega
                  clear hca hlf hfc hcc
                  go_wp2_with fail
                  go_loopg [19, 118] c.length (fun gg _ s118 wt => ∃ j : Nat, j ≤ c.length ∧ c.length - j ≤ gg ∧ s118 = .int .i64 j ∧ Hid (Row wt w4.heap.size 3 k (fun u => .int .i64 (idm found a c j u))) ∧ Hid (Below w4.heap.size w4 wt))
                  case atStart => exact ⟨0, Nat.zero_le _, by omega, rfl, Hid.mk' (hI.out.congr (fun j _ => by rw [idm_zero])), hBr⟩
                  case round =>
                    obtain ⟨j, hj, hgg3, rfl, hI6, hB6⟩ := hrel
                    by_cases hjc : j < c.length
                    · have hjz : (j : Int) < (c.length : Int) := by omega
                      have hcx := HCC.out wr hB6.out j hjc
                      obtain ⟨hxk, hxF, _⟩ := HLF.out j hjc
                      have hon := (hR.out.below hB6.out hsz4).cell hxk
                      rw [on_all hxk, decide_eq_true hxF] at hon
                      have hid := hI6.out.cell hxk
                      have hif := hI6.out.free (c.getD j 0)
                      rw [idm_new hA.out hCA.out hjc] at hid
                      have hI7 : Hid (Row (wr.setCell ⟨w4.heap.size, c.getD j 0, none⟩ (.int .i64 (a : Int))) w4.heap.size 3 k (fun u => .int .i64 (idm found a c (j + 1) u))) := Row.put hI6.out (fun u hu => idm_put hjc u)
                      have hB7 : Hid (Below w4.heap.size w4 (wr.setCell ⟨w4.heap.size, c.getD j 0, none⟩ (.int .i64 (a : Int)))) := hB6.out.setCell (p := ⟨w4.heap.size, c.getD j 0, none⟩) (Nat.le_refl _) _
                      clear hxF
                      generalize c.getD j 0 = x at hcx hxk hon hid hif hI7 hB7
                      have hx0 : ¬ (x : Int) < 0 := by omega
                      have hxz : (x : Int) < (k : Int) := by omega
                      go_wp2
                      go_roundg (c.length - (j + 1))
                      case measure => omega
                      case rel => exact ⟨j + 1, by omega, Nat.le_refl _, rfl, hI7, hB7⟩
                    · have hjz : ¬ ((j : Int) < (c.length : Int)) := by omega
                      have hI8 : Hid (Row wr w4.heap.size 3 k (fun u => .int .i64 (idn found (a + 1) u))) := hI6.out.congr (fun u hu => by rw [show j = c.length by omega, idm_all hCA.out])
                      have hNo : Hid (Row wr w.heap.size 3 k (fun j => .int .i64 (zf k g j))) := hN4.out.below hB6.out (by omega)
                      obtain ⟨wo, hwo⟩ : ∃ wo, wo = wr := ⟨_, rfl⟩
                      subst hwo
                      clear hI6 hI
                      go_wp2_with fail
                      go_loopg [20, 21, 150] c.length (fun gg _ _ s150 wt => ∃ j : Nat, j ≤ c.length ∧ c.length - j ≤ gg ∧ s150 = .int .i64 j ∧ ∃ m, wt = wo.drewN m)
                      case atStart => exact ⟨0, Nat.zero_le _, by omega, rfl, 0, rfl⟩
                      case round =>
                        obtain ⟨j, hj2, hgg4, rfl, m, rfl⟩ := hrel
                        by_cases hjc : j < c.length
                        · have hjz : (j : Int) < (c.length : Int) := by omega
                          have hcx := HCC.out wo hB6.out j hjc
                          obtain ⟨hxk, _, hzx⟩ := HLF.out j hjc
                          have hmod : (j + 1) % c.length < c.length := Nat.mod_lt _ hc0
                          have hcy := HCC.out wo hB6.out _ hmod
                          have hnx := hNo.out.cell hxk
                          rw [hzx] at hnx
                          have hmz : ((j : Int) + 1) % (c.length : Int) = (((j + 1) % c.length : Nat) : Int) := by simp
                          clear hzx
                          generalize c.getD j 0 = x at hcx hxk hnx
                          generalize (j + 1) % c.length = q at hmod hcy hnx hmz
                          generalize c.getD q 0 = y at hcy hnx
                          have hxz : (x : Int) < (k : Int) := by omega
                          have hqz : (q : Int) < (c.length : Int) := by omega
                          go_wp2_with fail
                          go_quiet (fail)
                          go_wp2
                          go_roundg (c.length - (j + 1))
                          case measure => omega
                          case rel => exact ⟨j + 1, by omega, Nat.le_refl _, rfl, _, rfl⟩
                        · have hjz2 : ¬ ((j : Int) < (c.length : Int)) := by omega
                          have hIf : Hid (Row (wo.drewN m) w4.heap.size 3 k (fun u => .int .i64 (idn found (a + 1) u))) := hI8.out
                          have hBf : Hid (Below w4.heap.size w4 (wo.drewN m)) := ⟨hB6.out.os, hB6.out.tape, hB6.out.output, hB6.out.size, hB6.out.block⟩
                          have htt : Hid (tot found (a + 1) = tot found a + c.length) := tot_succ hCA.out
                          have htl : tot found a ≤ k := tot_le hA.out a
                          go_wp2
                          go_roundg (found.length - (a + 1))
                          case measure => omega
                          case rel => exact ⟨a + 1, by omega, Nat.le_refl _, rfl, by rw [htt.out]; rfl, hIf, hBf⟩
                · have hlaz : ¬ ((a : Int) < (found.length : Int)) := by omega
                  obtain ⟨w6, hw6⟩ : ∃ w6, w6 = wr := ⟨_, rfl⟩
                  subst hw6
                  have hId6 : Hid (Row w6 w4.heap.size 3 k (fun j => .int .i64 (idn found found.length j))) := hI.out.congr (fun j hj => by rw [show a = found.length by omega])
                  have hN6 : Hid (Row w6 w.heap.size 3 k (fun j => .int .i64 (zf k g j))) := hN4.out.below hBr.out (by omega)
                  have hR6 : Hid (Row w6 w2.heap.size 4 k (fun j => .bool (onB found k j))) := hR.out.below hBr.out hsz4
                  have hFC6 : Hid (FC w6 ao7 found) := hFC4.out.below hBr.out
                  have hBw6 : Hid (Below w.heap.size w w6) := hBw4.out.trans (hBr.out.mono (by omega))
                  have hsz6 : w4.heap.size < w6.heap.size := hId6.out.lt
                  have heq : tot found a = cF found k := by rw [show a = found.length by omega]; exact tot_count hA.out
                  rw [heq]
                  clear hN4 hR hFC4 hBw4 hBr hI hI3 heq
                  go_wp2_with (at_make; refine wpList_make_full _ rfl (.tmp 178) (.tmp 178) 27 rfl w6.heap.size 4 i4 (.bool false) 1 Yba.underlying27 hi4 hz40 hz41 _ _ _ _ found.length rfl rfl rfl rfl ?p2 ?p3 (Nat.le_refl _) ?_)
                  case p2 => omega
                  case p3 => unfold maxLen; omega
                  intro w7 hown7 hgr7
                  have hM7 : Hid (Row w7 w6.heap.size 4 found.length (fun _ => .bool false)) := row_made hown7
                  have hB7 : Hid (Below w6.heap.size w6 w7) := (Below.refl _ w6).grown hgr7 (Nat.le_refl _) (fun k hk => by simp at hk)
                  clear hown7 hgr7
                  go_wp2_with fail
                  go_loopg [23, 24, 25, 26, 27] k (fun gg s23 s24 _ _ _ wr => ∃ s : Nat, s ≤ k ∧ k - s ≤ gg ∧ s24 = .int .i64 s ∧ s23 = .int .i64 (cnt s : Nat) ∧ Hid (Row wr w6.heap.size 4 found.length (fun q => .bool (metB cnt s q))) ∧ Hid (Below w6.heap.size w6 wr))
                  case atStart => exact ⟨0, Nat.zero_le _, by omega, rfl, by rw [hA.out.cnt0]; rfl, Hid.mk' (hM7.out.congr (fun q _ => by simp [metB, hA.out.cnt0])), hB7⟩
                  case round =>
                    obtain ⟨s, hs, hgg5, rfl, rfl, hM8, hB8⟩ := hrel
                    by_cases hsk : s < k
                    · have hskz : (s : Int) < (k : Int) := by omega
                      have hcl : cnt s ≤ found.length := (hA.out.step s hsk).1
                      obtain ⟨wo, hwo⟩ : ∃ wo, wo = wr := ⟨_, rfl⟩
                      subst hwo
                      have hNo : Hid (Row wo w.heap.size 3 k (fun j => .int .i64 (zf k g j))) := hN6.out.below hB8.out (by omega)
                      have hRo : Hid (Row wo w2.heap.size 4 k (fun j => .bool (onB found k j))) := hR6.out.below hB8.out (by omega)
                      have hIo : Hid (Row wo w4.heap.size 3 k (fun j => .int .i64 (idn found found.length j))) := hId6.out.below hB8.out hsz6
                      have hFo : Hid (FC wo ao7 found) := hFC6.out.below hB8.out
                      go_wp2_with fail
                      go_loopg [25, 26] k (fun gg s25 s26 wt => ∃ (i : Int) (t : Nat), t ≤ k ∧ k - t ≤ gg ∧ i < k ∧ s25 = .int .i64 i ∧ s26 = .int .i64 t ∧ wo = wt ∧ Hid (Lk (nx (zsOf k g)) t s i) ∧ Hid (∀ j, j < t → ∀ x, it (nx (zsOf k g)) j s = some x → x ∉ Fs found))
                      case atStart => exact ⟨s, 0, Nat.zero_le _, by omega, by omega, rfl, rfl, rfl, Hid.mk' (Lk.start _ s), Hid.mk' (fun j hj => by omega)⟩
                      case round =>
                        obtain ⟨i, t, ht, hg2, hin, rfl, rfl, rfl, hL, hno⟩ := hrel
                        go_upto_region 61 with fail
                        go_cut [199] (fun s199 wx => wo = wx ∧ s199 = .bool (decide (t < k ∧ 0 ≤ i ∧ i.toNat ∉ Fs found)))
                        case first =>
                          by_cases h1 : t < k
                          · have h1z : (t : Int) < (k : Int) := by omega
                            by_cases h2 : 0 ≤ i
                            · obtain ⟨m, rfl⟩ : ∃ m : Nat, i = m := ⟨i.toNat, by omega⟩
                              have hmk : m < k := by omega
                              have hon := hRo.out.cell hmk
                              rw [on_all hmk] at hon
                              by_cases h3 : m ∈ Fs found
                              · rw [decide_eq_true h3] at hon
                                have H3 : Hid (¬ (t < k ∧ (0 : Int) ≤ (m : Int) ∧ (m : Int).toNat ∉ Fs found)) := fun h => h.2.2 (by simpa using h3)
                                clear h3
                                go_wp2
                                go_meet
                                exact ⟨rfl, by rw [decide_eq_false H3.out]⟩
                              · rw [decide_eq_false h3] at hon
                                have H3 : Hid (t < k ∧ (0 : Int) ≤ (m : Int) ∧ (m : Int).toNat ∉ Fs found) := ⟨h1, h2, by simpa using h3⟩
                                clear h3
                                go_wp2
                                go_meet
                                exact ⟨rfl, by rw [decide_eq_true H3.out]⟩
                            · have H3 : Hid (¬ (t < k ∧ 0 ≤ i ∧ i.toNat ∉ Fs found)) := fun h => h2 h.2.1
                              go_wp2
                              go_meet
                              exact ⟨rfl, by rw [decide_eq_false H3.out]⟩
                          · have h1z : ¬ (t : Int) < (k : Int) := by omega
                            have H3 : Hid (¬ (t < k ∧ 0 ≤ i ∧ i.toNat ∉ Fs found)) := fun h => h1 h.1
                            go_wp2
                            go_meet
                            exact ⟨rfl, by rw [decide_eq_false H3.out]⟩
                        case rest =>
                          obtain ⟨rfl, rfl⟩ := hcut
                          by_cases hcond : t < k ∧ 0 ≤ i ∧ i.toNat ∉ Fs found
                          · rw [decide_eq_true hcond]
                            obtain ⟨h1, h2, h3⟩ := hcond
                            obtain ⟨m, rfl⟩ : ∃ m : Nat, i = m := ⟨i.toNat, by omega⟩
                            have hmk : m < k := by omega
                            have hcm := hNo.out.cell hmk
                            have H3 : Hid (m ∉ Fs found) := Hid.mk' (by simpa using h3)
                            have hL2 : Hid (Lk (nx (zsOf k g)) (t + 1) s (zf k g m)) := hL.out.next hmk
                            have hzl : Hid (zf k g m < k) := zf_lt hmk
                            clear h3
                            generalize zf k g m = z at hcm hL2 hzl
                            go_wp2
                            go_roundg (k - (t + 1))
                            case measure => omega
                            case rel =>
                              refine ⟨z, t + 1, by omega, Nat.le_refl _, hzl.out, rfl, rfl, rfl, hL2, Hid.mk' (fun j hj x hx => ?_)⟩
                              by_cases e : j = t
                              · subst e
                                rw [hL.out.at] at hx
                                cases hx
                                exact H3.out
                              · exact hno.out j (by omega) x hx
                          · rw [decide_eq_false hcond]
                            have hX : Hid (¬ (t < k ∧ 0 ≤ i ∧ i.toNat ∉ Fs found)) := hcond
                            clear hcond
                            go_upto_region 64 with fail
                            go_cut [213] (fun s213 wx => wo = wx ∧ s213 = .bool (decide (0 ≤ i ∧ i.toNat ∈ Fs found)))
                            case first =>
                              by_cases h2 : 0 ≤ i
                              · obtain ⟨m, rfl⟩ : ∃ m : Nat, i = m := ⟨i.toNat, by omega⟩
                                have hmk : m < k := by omega
                                have hon := hRo.out.cell hmk
                                rw [on_all hmk] at hon
                                by_cases h3 : m ∈ Fs found
                                · rw [decide_eq_true h3] at hon
                                  have H3 : Hid ((0 : Int) ≤ (m : Int) ∧ (m : Int).toNat ∈ Fs found) := ⟨h2, by simpa using h3⟩
                                  clear h3
                                  go_wp2
                                  go_meet
                                  exact ⟨rfl, by rw [decide_eq_true H3.out]⟩
                                · rw [decide_eq_false h3] at hon
                                  have H3 : Hid (¬ ((0 : Int) ≤ (m : Int) ∧ (m : Int).toNat ∈ Fs found)) := fun h => h3 (by simpa using h.2)
                                  clear h3
                                  go_wp2
                                  go_meet
                                  exact ⟨rfl, by rw [decide_eq_false H3.out]⟩
                              · have H3 : Hid (¬ (0 ≤ i ∧ i.toNat ∈ Fs found)) := fun h => h2 h.1
                                go_wp2
                                go_meet
                                exact ⟨rfl, by rw [decide_eq_false H3.out]⟩
                            case rest =>
                              obtain ⟨rfl, rfl⟩ := hcut
                              by_cases hyes : 0 ≤ i ∧ i.toNat ∈ Fs found
                              · rw [decide_eq_true hyes]
                                obtain ⟨h2, h3⟩ := hyes
                                obtain ⟨m, rfl⟩ : ∃ m : Nat, i = m := ⟨i.toNat, by omega⟩
                                have hmk : m < k := by omega
                                have h3 : m ∈ Fs found := by simpa using h3
                                obtain ⟨q, hql, hq⟩ := flat_mem h3
                                have hidm := hIo.out.cell hmk
                                rw [idn_some hA.out.nodup hql hq] at hidm
                                have hme := hM8.out.cell hql
                                have hmf := hM8.out.free q
                                have hq0 : ¬ (q : Int) < 0 := by omega
                                have hqz : (q : Int) < (found.length : Int) := by omega
                                rcases hA.out.yes hsk hL.out.at hno.out hmk hq with ⟨hlt, hc⟩ | ⟨heq, hhd, hc⟩
                                · have hM9 : Hid (Row wo w6.heap.size 4 found.length (fun q => .bool (metB cnt (s + 1) q))) := hM8.out.congr (fun q _ => met_same hc q)
                                  have HCn : Hid (cnt (s + 1) = cnt s) := hc
                                  rw [show metB cnt s q = true from decide_eq_true hlt] at hme
                                  clear hlt hc h3 hq
                                  go_wp2
                                  go_roundg (k - (s + 1))
                                  case measure => omega
                                  case rel => exact ⟨s + 1, by omega, Nat.le_refl _, rfl, by rw [HCn.out], hM9, hB8⟩
                                · rw [show metB cnt s q = false from decide_eq_false (by omega)] at hme
                                  obtain ⟨c, hcq⟩ : ∃ c, found[q]? = some c := ⟨_, List.getElem?_eq_getElem hql⟩
                                  have hcd : found.getD q [] = c := by rw [List.getD_eq_getElem?_getD, hcq]; rfl
                                  rw [hcd] at hhd
                                  obtain ⟨fb, b, o, cp, rfl, _, hfc, hcp, _, hcc⟩ := hFo.out q c hcq
                                  have hc0 : 0 < c.length := (list_facts hA.out hcq).1
                                  have hc0z : (0 : Int) < (c.length : Int) := by omega
                                  have hcm := hcc 0 hc0
                                  rw [hhd] at hcm
                                  have hM9 : Hid (Row (wo.setCell ⟨w6.heap.size, q, none⟩ (.bool true)) w6.heap.size 4 found.length (fun q => .bool (metB cnt (s + 1) q))) := Row.put hM8.out (fun q' _ => by rw [heq]; exact met_put hc q')
                                  have hB9 : Hid (Below w6.heap.size w6 (wo.setCell ⟨w6.heap.size, q, none⟩ (.bool true))) := hB8.out.setCell (p := ⟨w6.heap.size, q, none⟩) (Nat.le_refl _) _
                                  have HCn : Hid (cnt (s + 1) = q + 1) := Hid.mk' (by rw [hc, heq])
                                  rw [← heq]
                                  clear hc h3 hq heq hhd hcd hcq hcc
                                  simp only [Nat.add_zero] at hcm
                                  go_wp2
                                  go_roundg (k - (s + 1))
                                  case measure => omega
                                  case rel => exact ⟨s + 1, by omega, Nat.le_refl _, rfl, by rw [HCn.out]; rfl, hM9, hB9⟩
                              · rw [decide_eq_false hyes]
                                have hc : cnt (s + 1) = cnt s := hA.out.no hsk hL.out hno.out (by
                                  by_cases a1 : t < k
                                  · by_cases a2 : 0 ≤ i
                                    · have a3 : i.toNat ∈ Fs found := by
                                        rcases Classical.em (i.toNat ∈ Fs found) with h | h
                                        · exact h
                                        · exact absurd ⟨a1, a2, h⟩ hX.out
                                      exact absurd ⟨a2, a3⟩ hyes
                                    · exact .inr (by rw [if_neg a2])
                                  · exact .inl (by omega)) (fun m hm => by
                                  by_cases a2 : 0 ≤ i
                                  · rw [if_pos a2] at hm
                                    cases hm
                                    exact fun h => hyes ⟨a2, h⟩
                                  · rw [if_neg a2] at hm
                                    cases hm)
                                have hM9 : Hid (Row wo w6.heap.size 4 found.length (fun q => .bool (metB cnt (s + 1) q))) := hM8.out.congr (fun q _ => met_same hc q)
                                have HCn : Hid (cnt (s + 1) = cnt s) := hc
                                clear hc hyes
                                go_wp2
                                go_roundg (k - (s + 1))
                                case measure => omega
                                case rel => exact ⟨s + 1, by omega, Nat.le_refl _, rfl, by rw [HCn.out], hM9, hB8⟩
                    · have hskz : ¬ ((s : Int) < (k : Int)) := by omega
                      have hcs : cnt s = found.length := by rw [show s = k by omega]; exact hA.out.cntn
                      rw [hcs]
                      clear hcs
                      have hbf : Hid (Below w.heap.size w wr) := hBw6.out.trans (hB8.out.mono (by omega))
                      go_wp2
                      go_ret
                      exact ⟨rfl, hbf.out⟩
end Go.Proofs.Ybulkalhs.Law
