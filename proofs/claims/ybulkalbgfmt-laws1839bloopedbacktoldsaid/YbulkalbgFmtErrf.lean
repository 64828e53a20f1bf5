/-
  fmt.Errorf at the one format that the road comes to: it answers an error that is not nil.
-/
import Derived.Test.YbulkalbgFmtChains
import Derived.Stop.CallBack
import Derived.Stop.IfaceNil
import GoSem.ClaimData
import Derived.WalkKit
namespace Go.Proofs.YbulkalbgFmt.Errf
open Go.RowKit Blocks Mem Reads Back Chains
open Go.Extern.Stop Go.Stop Go.Extern
set_option linter.unusedVariables false
set_option maxRecDepth 100000

@[go_sem] theorem call13 (args : Array Value) (w : World) : (callFunc 13 args).run Ybaf.prog w = ((FmtStop.errorf #[9, 63] #[48] args).run Ybaf.prog w).andThen fun v w' => .ok (.value v) w' :=
  run_callFunc_extern Ybaf.func13 (by kernel_rfl) (by kernel_rfl) (by kernel_rfl) (by kernel_rfl) args w
@[go_sem] theorem guard (name : String) (w : World) : (FmtStop.guard name).run Ybaf.prog w = .ok () w := by kernel_rfl
-- "the filter table has no built-in chain %s"
@[go_sem] theorem fmt0 : FmtStop.printed? ⟨#[116, 104, 101, 32, 102, 105, 108, 116, 101, 114, 32, 116, 97, 98, 108, 101, 32, 104, 97, 115, 32, 110, 111, 32, 98, 117, 105, 108, 116, 45, 105, 110, 32, 99, 104, 97, 105, 110, 32, 37, 115]⟩ 1 = some [(0, 115, false)] := by kernel_rfl
@[go_sem] theorem fmt0r (w : World) : (FmtDoors.printed ⟨#[116, 104, 101, 32, 102, 105, 108, 116, 101, 114, 32, 116, 97, 98, 108, 101, 32, 104, 97, 115, 32, 110, 111, 32, 98, 117, 105, 108, 116, 45, 105, 110, 32, 99, 104, 97, 105, 110, 32, 37, 115]⟩ 1).run Ybaf.prog w = .ok [(0, 115, false)] w := by kernel_rfl
def shape9 : List UInt8 := [12, 6, 0, 0, 0, 0, 0, 0, 0, 115, 116, 114, 105, 110, 103]
@[go_sem] theorem op9_115 (name : String) (x : ByteArray) (w : World) : (FmtStop.operand name false 115 false (.iface 9 (.string x))).run Ybaf.prog w = .ok (shape9, FmtStop.pack x.data.toList) w := by kernel_rfl
@[go_sem] theorem op9_115w (name : String) (x : ByteArray) (w : World) : (FmtStop.operand name true 115 false (.iface 9 (.string x))).run Ybaf.prog w = .ok (shape9, FmtStop.pack x.data.toList) w := by kernel_rfl
@[go_sem] theorem ptr70 (w : World) : (FmtStop.ptrTo "errors.errorString").run Ybaf.prog w = .ok 70 w := by kernel_rfl
@[go_sem] theorem elem70 (w : World) : (elemOf 70).run Ybaf.prog w = .ok 72 w := by kernel_rfl

set_option maxHeartbeats 2000000 in
theorem errf_any (F : Interp) (ab : Nat) (x : ByteArray) (w : World) (hF : F.answers w.tape) (h : w.cell? ⟨ab, 0, none⟩ = some (.iface 9 (.string x))) :
    Calls Ybaf.prog 8 #[.string ⟨#[116, 104, 101, 32, 102, 105, 108, 116, 101, 114, 32, 116, 97, 98, 108, 101, 32, 104, 97, 115, 32, 110, 111, 32, 98, 117, 105, 108, 116, 45, 105, 110, 32, 99, 104, 97, 105, 110, 32, 37, 115]⟩, .slice (some ⟨ab, 0, none⟩) 1 1] w fun e w' => ∃ a, e = .returned (.iface 70 (.pointer (some a))) ∧ Below w.heap.size w w' := by
  have hF' := answers_open hF
  go_enter Ybaf.func8, Ybaf.ntmps8
  go_wp2
  go_ret
  exact ⟨_, rfl, ((Below.refl _ w).alloc (Nat.le_refl _) _).drew⟩

/-- The two answers of FilterChains("INPUT"). -/
def Err (ds : List D) (err : Value) : Prop := (ins ds = [] ∧ ∃ a, err = .iface 70 (.pointer (some a))) ∨ (ins ds ≠ [] ∧ err = .nilIface)

set_option maxHeartbeats 4000000 in
theorem filters_any (F : Interp) (fw n cap : Nat) (ao : Option Addr) (M : List (Nat × Obj)) (ds : List D) (w : World) (hF : F.answers w.tape) (hn : n = ds.length) (hlen : ds.length ≤ 256) (h0 : w.cell? ⟨fw, 0, none⟩ = some (.slice ao n cap)) (h4 : w.cell? ⟨fw, 4, none⟩ = some (.pointer none)) (hW : Holds w M)
    (hb : ∀ d ∈ ds, IsBack M d) (hc : ∀ (j : Nat) (d : D), ds[j]? = some d → ∃ bb, ao = some ⟨bb, 0, none⟩ ∧ w.cell? ⟨bb, j, none⟩ = some (ptr d.rs) ∧ bb < w.heap.size) :
    Calls Ybaf.prog 6 #[ptr fw, .string sIN] w fun e w' => ∃ v err, e = .returned (.tuple #[v, err]) ∧ Below w.heap.size w w' ∧ w'.ownsRow w.heap.size 25 1 v (ins ds).length (ins ds) ∧ Err ds err := by
  have hC := chains_fil fw n cap ao M ds w hn hlen h0 h4 hW hb hc
  clear hn h0 h4 hW hb hc
  show Calls Ybaf.prog 6 #[.pointer (some ⟨fw, 0, none⟩), .string ⟨#[73, 78, 80, 85, 84]⟩] w _
  go_enter Ybaf.func6, Ybaf.ntmps6
  go_wp2_with fail
  refine hC.mono ?_
  rintro e w1 ⟨v, rfl, hb1, hown⟩
  clear hC
  have hb1 : Hid (Below w.heap.size w w1) := hb1
  cases hl : ins ds with
  | nil =>
    have HL : Hid (ins ds = []) := hl
    rw [hl] at hown
    clear hl
    obtain ⟨ao', cap', rfl⟩ := owns_nil hown
    have hF1 : F.answers (w1.alloc (.cells #[.iface 9 (.string ⟨#[73, 78, 80, 85, 84]⟩)] 20 (0, 0))).tape := by
      show F.answers w1.tape
      rw [hb1.out.tape]; exact hF
    have hE := errf_any F w1.heap.size ⟨#[73, 78, 80, 85, 84]⟩ (w1.alloc (.cells #[.iface 9 (.string ⟨#[73, 78, 80, 85, 84]⟩)] 20 (0, 0))) hF1 (by simp)
    clear hF hF1 hown
    go_wp2_with fail
    refine hE.mono ?_
    rintro e w2 ⟨a, rfl, hb2⟩
    clear hE
    have hb2 : Hid (Below w.heap.size w w2) := below_next (hb1.out.alloc hb1.out.size _) (Nat.le_trans hb1.out.size (by simp)) hb2
    go_wp2
    go_ret2
    refine ⟨_, _, rfl, hb2.out, ?_, .inl ⟨HL.out, a, rfl⟩⟩
    rw [HL.out]
    exact World.ownsRow_nil _ _ _ _
  | cons x xs =>
    have HL : Hid (ins ds = x :: xs) := hl
    have hlx : (x :: xs).length ≤ 256 := by rw [← hl]; exact Nat.le_trans (ins_len ds) hlen
    rw [hl] at hown
    clear hl
    obtain ⟨g, cap', hv1, _⟩ := owns_row hown (by simp)
    subst hv1
    simp only [List.length_cons] at hown hlx
    have HO : Hid (w1.ownsRow w.heap.size 25 1 (Value.slice (some { block := g, off := 0 }) (xs.length + 1) cap') (xs.length + 1) (x :: xs)) := hown
    clear hown
    go_wp2
    go_ret2
    refine ⟨_, _, rfl, hb1.out, ?_, .inr ⟨by rw [HL.out]; simp, rfl⟩⟩
    rw [HL.out]
    exact HO.out
end Go.Proofs.YbulkalbgFmt.Errf
