/-
  WHAT THE LAW READS OFF THE ANSWER OF cycles. No Go in sight.
-/
import Derived.Test.YbulkalhsGraph
namespace Go.Proofs.Ybulkalhs.Graph
set_option linter.unusedVariables false

theorem mem_flat {found : List (List Nat)} {a u : Nat} (h : u ∈ found.getD a []) : u ∈ found.flatten ∧ a < found.length := by
  by_cases e : a < found.length
  · rw [List.getD_eq_getElem?_getD, List.getElem?_eq_getElem e] at h
    exact ⟨List.mem_flatten.2 ⟨_, List.getElem_mem e, h⟩, e⟩
  · rw [List.getD_eq_getElem?_getD, List.getElem?_eq_none (by omega)] at h
    simp at h

theorem flat_mem {found : List (List Nat)} {u : Nat} (h : u ∈ found.flatten) : ∃ a, a < found.length ∧ u ∈ found.getD a [] := by
  obtain ⟨c, hc, hu⟩ := List.mem_flatten.1 h
  obtain ⟨a, ha, rfl⟩ := List.getElem_of_mem hc
  exact ⟨a, ha, by rw [List.getD_eq_getElem?_getD, List.getElem?_eq_getElem ha]; exact hu⟩

theorem uniq {found : List (List Nat)} (h : found.flatten.Nodup) {a b u : Nat} (ha : u ∈ found.getD a []) (hb : u ∈ found.getD b []) : a = b := by
  induction found generalizing a b with
  | nil => simp at ha
  | cons c fs ih =>
    rw [List.flatten_cons, List.nodup_append] at h
    cases a with
    | zero =>
      cases b with
      | zero => rfl
      | succ b => exact absurd rfl (h.2.2 u (by simpa using ha) u (mem_flat (by simpa using hb)).1)
    | succ a =>
      cases b with
      | zero => exact absurd rfl (h.2.2 u (by simpa using hb) u (mem_flat (by simpa using ha)).1)
      | succ b => rw [ih h.2.1 (a := a) (b := b) (by simpa using ha) (by simpa using hb)]

theorem nodup_at {found : List (List Nat)} (h : found.flatten.Nodup) (a : Nat) : (found.getD a []).Nodup := by
  induction found generalizing a with
  | nil => simp
  | cons c fs ih =>
    rw [List.flatten_cons, List.nodup_append] at h
    cases a with
    | zero => simpa using h.1
    | succ a => simpa using ih h.2.1 a

/-- The number of the list that holds u, of the first k. -/
def idn (found : List (List Nat)) : Nat → Nat → Int
  | 0, _ => -1
  | k + 1, u => if u ∈ found.getD k [] then (k : Int) else idn found k u

theorem idn_none {found : List (List Nat)} {k u : Nat} (h : ∀ a, a < k → u ∉ found.getD a []) : idn found k u = -1 := by
  induction k with
  | zero => rfl
  | succ k ih =>
    show (if u ∈ found.getD k [] then (k : Int) else idn found k u) = -1
    rw [if_neg (h k (by omega))]
    exact ih (fun a ha => h a (by omega))

theorem idn_some {found : List (List Nat)} (hn : found.flatten.Nodup) {k u a : Nat} (ha : a < k) (h : u ∈ found.getD a []) : idn found k u = a := by
  induction k with
  | zero => omega
  | succ k ih =>
    show (if u ∈ found.getD k [] then (k : Int) else idn found k u) = a
    by_cases e : u ∈ found.getD k []
    · rw [if_pos e, uniq hn h e]
    · rw [if_neg e]
      exact ih (by
        rcases Nat.lt_or_ge a k with h1 | h1
        · exact h1
        · exact absurd (by rw [show k = a by omega]; exact h) e)

theorem total_succ {found : List (List Nat)} {k : Nat} (h : k < found.length) : (found.take (k + 1)).flatten.length = (found.take k).flatten.length + (found.getD k []).length := by
  rw [List.take_add_one, List.getElem?_eq_getElem h, List.flatten_append, List.length_append]
  simp [List.getD_eq_getElem?_getD, h]

section
variable {n : Nat} {N : Nat → Option Nat} {found : List (List Nat)} {cnt : Nat → Nat}

theorem Ans.cycAt (hA : Ans n N found cnt) {a : Nat} (ha : a < found.length) : IsCyc N (found.getD a []) :=
  hA.cyc _ (by rw [List.getD_eq_getElem?_getD, List.getElem?_eq_getElem ha]; exact List.getElem_mem ha)

theorem Ans.lenAt (hA : Ans n N found cnt) (a : Nat) : (found.getD a []).length ≤ n :=
  nodup_le (nodup_at hA.nodup a) (fun x hx => hA.lt x (mem_flat hx).1)

theorem Ans.count (hA : Ans n N found cnt) : ((List.range n).filter (fun v => decide (v ∈ found.flatten))).length = found.flatten.length := count_eq hA.nodup hA.lt

theorem Ans.lenAll (hA : Ans n N found cnt) : found.length ≤ n := by
  have h1 : found.length ≤ found.flatten.length := by
    have hc := hA.cyc
    clear hA
    induction found with
    | nil => simp
    | cons c fs ih =>
      have := ih (fun c hc' => hc c (by simp [hc']))
      have h0 := (hc c (by simp)).pos
      simp only [List.flatten_cons, List.length_append, List.length_cons]
      omega
  exact Nat.le_trans h1 (nodup_le hA.nodup hA.lt)

/-- The first return, within n steps. -/
theorem Ans.first (hA : Ans n N found cnt) {v t : Nat} {o : Option Nat} (hv : v < n) (ho : it N (t + 1) v = o) (hno : ∀ m, 1 ≤ m → m ≤ t → it N m v ≠ some v) (hex : n ≤ t ∨ o = none ∨ o = some v) : o = some v ↔ v ∈ found.flatten := by
  constructor
  · intro h
    exact (hA.all v hv).1 ⟨t + 1, by omega, by rw [ho, h]⟩
  · intro h
    rcases hex with hex | hex | hex
    · obtain ⟨a, ha, hm⟩ := flat_mem h
      have hc := hA.cycAt ha
      exact absurd (hc.onC hm) (hno _ hc.pos (by have := hA.lenAt a; omega))
    · obtain ⟨x, hx⟩ := ((hA.all v hv).2 h).goes (t + 1)
      rw [ho, hex] at hx
      cases hx
    · exact hex

theorem Ans.yes (hA : Ans n N found cnt) {s t m q : Nat} (hs : s < n) (hit : it N t s = some m) (hno : ∀ j, j < t → ∀ x, it N j s = some x → x ∉ found.flatten) (hmn : m < n) (hq : m ∈ found.getD q []) :
    (q < cnt s ∧ cnt (s + 1) = cnt s) ∨ (q = cnt s ∧ (found.getD q []).getD 0 0 = m ∧ cnt (s + 1) = cnt s + 1) := by
  have hOn : OnC N m := (hA.all m hmn).2 (mem_flat hq).1
  obtain ⟨hle, ⟨h1, h2⟩ | ⟨h1, k, e, c, hk, hke, hc, hh, hj⟩⟩ := hA.step s hs
  · refine .inl ⟨?_, h1⟩
    obtain ⟨a, ha, hm⟩ := flat_mem (h2 t m hit hOn)
    have ha' : a < cnt s := by simp at ha; omega
    have : m ∈ found.getD a [] := by
      rw [List.getD_eq_getElem?_getD, List.getElem?_take_of_lt ha'] at hm
      rw [List.getD_eq_getElem?_getD]
      exact hm
    rw [uniq hA.nodup hq this]
    exact ha'
  · have hcd : found.getD (cnt s) [] = c := by rw [List.getD_eq_getElem?_getD, hc]; rfl
    have hec : e ∈ found.getD (cnt s) [] := by
      rw [hcd]
      cases c with
      | nil => simp at hh
      | cons x l => simp at hh; subst hh; simp
    have htk : t = k := by
      rcases Nat.lt_trichotomy t k with h | h | h
      · exact absurd hOn (hj t h m hit)
      · exact h
      · exact absurd (mem_flat hec).1 (hno k h e hke)
    subst htk
    rw [hit] at hke
    cases hke
    have hqc := uniq hA.nodup hq hec
    refine .inr ⟨hqc, ?_, h1⟩
    rw [hqc, hcd]
    cases c with
    | nil => simp at hh
    | cons x l => simp at hh; subst hh; rfl

theorem Ans.no (hA : Ans n N found cnt) {s t : Nat} {o : Option Nat} (hs : s < n) (hit : it N t s = o) (hno : ∀ j, j < t → ∀ x, it N j s = some x → x ∉ found.flatten) (hex : n ≤ t ∨ o = none) (hnot : ∀ m, o = some m → m ∉ found.flatten) : cnt (s + 1) = cnt s := by
  obtain ⟨hle, ⟨h1, h2⟩ | ⟨h1, k, e, c, hk, hke, hc, hh, hj⟩⟩ := hA.step s hs
  · exact h1
  · exfalso
    have hcd : found.getD (cnt s) [] = c := by rw [List.getD_eq_getElem?_getD, hc]; rfl
    have hec : e ∈ found.getD (cnt s) [] := by
      rw [hcd]
      cases c with
      | nil => simp at hh
      | cons x l => simp at hh; subst hh; simp
    have heF := (mem_flat hec).1
    rcases Nat.lt_or_ge k t with h | h
    · exact hno k h e hke heF
    · rcases hex with hex | hex
      · have htk : t = k := by omega
        subst htk
        rw [hit] at hke
        exact hnot e hke heF
      · rw [show k = t + (k - t) by omega, it_add, hit, hex] at hke
        cases hke
end
end Go.Proofs.Ybulkalhs.Graph
