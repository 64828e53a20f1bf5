/-
  ONE BACK END, as the readers see it; Chains at both of its names.
-/
import Derived.Test.YbulkalbgFmtReads
import Derived.Maps.AppendAt
namespace Go.Proofs.YbulkalbgFmt.Back
open Go.RowKit Blocks Mem Reads
set_option linter.unusedVariables false
set_option maxRecDepth 100000

/-- Called there, it answers the value and turns nothing that lay there. -/
abbrev Gives (f : Nat) (av : Array Value) (w : World) (v : Value) : Prop := Calls Ybaf.prog f av w fun e w' => e = .returned v ∧ Below w.heap.size w w'

theorem owns_below {w w' : World} {B e s n : Nat} {v : Value} {xs : List Value} (h : w.ownsRow B e s v n xs) (hb : Below w.heap.size w w') : w'.ownsRow B e s v n xs :=
  h.kept (row := none) ⟨hb.os, hb.tape, hb.output, hb.size, fun k hk _ => hb.block k hk⟩ (by cases v.ownBlock <;> simp)

theorem below_next {A : Nat} {a w w' : World} (h : Below A a w) (hA : A ≤ w.heap.size) (h' : Below w.heap.size w w') : Below A a w' := h.trans (h'.mono hA)

theorem set_cell {M : List (Nat × Obj)} {w : World} (hW : Holds w M) {b T : Nat} {c : Array Value} (h : (b, .cells c T (0, 0)) ∈ M) (j : Nat) : w.cell? ⟨b, j, none⟩ = c[j]? := blk_cell (hW _ _ h) j

/-- The tables of a ruleset, by name. -/
theorem set_table {M : List (Nat × Obj)} {w : World} (hW : Holds w M) {r : Nat} {L : List (Nat × ByteArray)} (h : IsSet M r L) (hlen : L.length ≤ 1000) (hn : ∀ (j : Nat) (p : Nat × ByteArray), L[j]? = some p → ∃ line sb, (p.1, tabO p.2 line sb) ∈ M) (x : ByteArray) :
    Gives 10 #[ptr r, .string x] w (.pointer (named L x)) := by
  obtain ⟨tb, cap, cur, h1, h2, h3⟩ := h
  refine find_tab r tb cap L x w hlen ?_ ?_
  · rw [set_cell hW h1]; rfl
  · intro j p hp
    refine ⟨?_, ?_⟩
    · rw [set_cell hW h2]; exact h3 j p hp
    · obtain ⟨line, sb, hm⟩ := hn j p hp
      rw [set_cell hW hm]; rfl

theorem tab_chain {M : List (Nat × Obj)} {w : World} (hW : Holds w M) {t : Nat} {nm : ByteArray} {line : Int} {cn : ByteArray} {cb : Nat} {pol : ByteArray} (h : IsTab M t nm line cn cb pol) (hne : decide (sOUT = cn) = false) :
    Gives 9 #[ptr t, .string cn] w (ptr cb) := by
  obtain ⟨sb, ob, h1, h2, h3, h4⟩ := h
  have := find_chn t sb 2 [(ob, sOUT), (cb, cn)] cn w (by simp) (by rw [set_cell hW h1]; rfl) (by
    intro j p hp
    match j, hp with
    | 0, hp => simp at hp; subst hp; exact ⟨by rw [set_cell hW h2]; rfl, by rw [set_cell hW h3]; rfl⟩
    | 1, hp => simp at hp; subst hp; exact ⟨by rw [set_cell hW h2]; rfl, by rw [set_cell hW h4]; rfl⟩
    | j + 2, hp => simp at hp)
  have hne' : sOUT ≠ cn := by simpa using hne
  simpa [named, hne', ptr] using this

theorem tab_line {M : List (Nat × Obj)} {w : World} (hW : Holds w M) {t : Nat} {nm : ByteArray} {line : Int} {cn : ByteArray} {cb : Nat} {pol : ByteArray} (h : IsTab M t nm line cn cb pol) : w.cell? ⟨t, 1, none⟩ = some (.int .i64 line) ∧ t < w.heap.size := by
  obtain ⟨sb, ob, h1, h2, h3, h4⟩ := h
  exact ⟨by rw [set_cell hW h1]; rfl, hW.lt h1⟩

theorem tab_built {M : List (Nat × Obj)} {w : World} (hW : Holds w M) {t : Nat} {nm : ByteArray} {line : Int} {cn : ByteArray} {cb : Nat} {pol : ByteArray} (h : IsTab M t nm line cn cb pol) :
    Calls Ybaf.prog 12 #[.pointer (some ⟨cb, 0, none⟩)] w fun e w' => e = .returned (.bool (!pol.toList.isEmpty)) ∧ w' = w := by
  obtain ⟨sb, ob, h1, h2, h3, h4⟩ := h
  exact builtIn_any cb pol w (by rw [set_cell hW h4]; rfl)

theorem emp_acc : sACC.toList.isEmpty = false := by rw [ByteArray.toList_eq]; rfl
theorem emp_drop : sDROP.toList.isEmpty = false := by rw [ByteArray.toList_eq]; rfl
theorem emp_no : sNO.toList.isEmpty = true := by rw [ByteArray.toList_eq]; rfl

theorem names_of {M : List (Nat × Obj)} {d : D} {fb rb : Nat} {L : List (Nat × ByteArray)} (h2 : IsTab M fb sFIL (if d.held then 1 else 0) sIN d.inb (if d.inp then sACC else sNO)) (h3 : d.raw = true → IsTab M rb sRAW 1 sPRE d.preb (if d.pre then sDROP else sNO))
    (h4 : d.raw = false → L = [(fb, sFIL)]) (h5 : d.raw = true → L = [(fb, sFIL), (rb, sRAW)] ∨ L = [(rb, sRAW), (fb, sFIL)]) : L.length ≤ 1000 ∧ ∀ (j : Nat) (p : Nat × ByteArray), L[j]? = some p → ∃ line sb, (p.1, tabO p.2 line sb) ∈ M := by
  have hf : ∃ line sb, (fb, tabO sFIL line sb) ∈ M := by obtain ⟨sb, _, h, _⟩ := h2; exact ⟨_, _, h⟩
  cases hr : d.raw with
  | false =>
    rw [h4 hr]
    refine ⟨by simp, fun j p hp => ?_⟩
    match j, hp with
    | 0, hp => simp at hp; subst hp; exact hf
    | j + 1, hp => simp at hp
  | true =>
    have hg : ∃ line sb, (rb, tabO sRAW line sb) ∈ M := by obtain ⟨sb, _, h, _⟩ := h3 hr; exact ⟨_, _, h⟩
    rcases h5 hr with rfl | rfl
    · refine ⟨by simp, fun j p hp => ?_⟩
      match j, hp with
      | 0, hp => simp at hp; subst hp; exact hf
      | 1, hp => simp at hp; subst hp; exact hg
      | j + 2, hp => simp at hp
    · refine ⟨by simp, fun j p hp => ?_⟩
      match j, hp with
      | 0, hp => simp at hp; subst hp; exact hg
      | 1, hp => simp at hp; subst hp; exact hf
      | j + 2, hp => simp at hp

/-- The filter table of a back end, as Chains reads it. -/
theorem back_fil {M : List (Nat × Obj)} {d : D} (h : IsBack M d) : ∃ fb, ∀ w, Holds w M → Gives 10 #[ptr d.rs, .string sFIL] w (ptr fb) ∧ Gives 11 #[.pointer (some ⟨d.rs, 0, none⟩)] w (.bool d.held) ∧ Gives 9 #[ptr fb, .string sIN] w (ptr d.inb) ∧
    Calls Ybaf.prog 12 #[.pointer (some ⟨d.inb, 0, none⟩)] w fun e w' => e = .returned (.bool d.inp) ∧ w' = w := by
  obtain ⟨fb, rb, L, h1, h2, h3, h4, h5⟩ := h
  obtain ⟨hlen, hn⟩ := names_of h2 h3 h4 h5
  have hnm : named L sFIL = some ⟨fb, 0, none⟩ := by
    cases hr : d.raw with
    | false => rw [h4 hr]; simp [named]
    | true =>
      have : sRAW ≠ sFIL := by simpa using ne2
      rcases h5 hr with rfl | rfl <;> simp [named, this]
  refine ⟨fb, fun w hW => ?_⟩
  have hT := set_table hW h1 hlen hn sFIL
  rw [hnm] at hT
  refine ⟨hT, ?_, tab_chain hW h2 ne3, ?_⟩
  · have := holds_any d.rs fb _ w hT (tab_line hW h2).1 (tab_line hW h2).2
    cases hd : d.held <;> simpa [hd] using this
  · have := tab_built hW h2
    cases hd : d.inp <;> simp [hd, emp_acc, emp_no] at this <;> exact this

/-- The raw table of a back end, as Chains reads it. -/
theorem back_raw {M : List (Nat × Obj)} {d : D} (h : IsBack M d) : (d.raw = false ∧ ∀ w, Holds w M → Gives 10 #[ptr d.rs, .string sRAW] w (.pointer none)) ∨
    (d.raw = true ∧ ∃ rb, ∀ w, Holds w M → Gives 10 #[ptr d.rs, .string sRAW] w (ptr rb) ∧ Gives 9 #[ptr rb, .string sPRE] w (ptr d.preb) ∧ Calls Ybaf.prog 12 #[.pointer (some ⟨d.preb, 0, none⟩)] w fun e w' => e = .returned (.bool d.pre) ∧ w' = w) := by
  obtain ⟨fb, rb, L, h1, h2, h3, h4, h5⟩ := h
  obtain ⟨hlen, hn⟩ := names_of h2 h3 h4 h5
  have hne : sFIL ≠ sRAW := by simpa using ne1
  cases hr : d.raw with
  | false =>
    refine .inl ⟨rfl, fun w hW => ?_⟩
    have hT := set_table hW h1 hlen hn sRAW
    have hnm : named L sRAW = none := by rw [h4 hr]; simp [named, hne]
    rw [hnm] at hT
    exact hT
  | true =>
    refine .inr ⟨rfl, rb, fun w hW => ?_⟩
    have hT := set_table hW h1 hlen hn sRAW
    have hnm : named L sRAW = some ⟨rb, 0, none⟩ := by rcases h5 hr with rfl | rfl <;> simp [named, hne]
    rw [hnm] at hT
    refine ⟨hT, tab_chain hW (h3 hr) ne4, ?_⟩
    have := tab_built hW (h3 hr)
    cases hd : d.pre <;> simp [hd, emp_drop, emp_no] at this <;> exact this

/-- What Chains answers of the filter table, and of the raw table. -/
def ins (ds : List D) : List Value := (ds.filter fun d => d.held && d.inp).map fun d => ptr d.inb
def pres (ds : List D) : List Value := (ds.filter fun d => d.raw && d.pre).map fun d => ptr d.preb

theorem ins_snoc (ds : List D) (d : D) : ins (ds ++ [d]) = ins ds ++ (if d.held && d.inp then [ptr d.inb] else []) := by simp [ins, List.filter_append, List.filter_cons]; split <;> simp
theorem pres_snoc (ds : List D) (d : D) : pres (ds ++ [d]) = pres ds ++ (if d.raw && d.pre then [ptr d.preb] else []) := by simp [pres, List.filter_append, List.filter_cons]; split <;> simp
theorem ins_len (ds : List D) : (ins ds).length ≤ ds.length := by simp [ins]; exact List.length_filter_le _ _
theorem pres_len (ds : List D) : (pres ds).length ≤ ds.length := by simp [pres]; exact List.length_filter_le _ _

theorem info25 : (Ybaf.prog.info? 25).map (fun i => (i.zero, i.size, i.bytes)) = some (some (.pointer none), 1, 8) := by kernel_rfl

end Go.Proofs.YbulkalbgFmt.Back
