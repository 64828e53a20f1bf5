/-
  Group.queue: the frame goes to the peer's outbox, and nothing else is done.
-/
import Derived.Test.YbulkakzqBox
import Derived.Handy
namespace Go.Proofs.Ybulkakzq.QueueOut
open Go.RowKit Wire Blocks Box
open Go.Shelf
set_option linter.unusedVariables false
set_option maxRecDepth 100000

set_option maxHeartbeats 4000000 in
theorem queue_any (gv ov : Value) (pb xb lb B n g m cap : Nat) (snd : ByteArray) (who : Int) (lv : Value) (xs : List Value) (ys : List Int) (w : World) (hp : w.cell? ⟨pb, 13, none⟩ = some (.iface 36 (.pointer (some ⟨xb, 0, none⟩)))) (hx : w.heap[xb]? = some (boxO who lb)) (hlg : w.heap[lb]? = some (logO lv)) (hown : w.ownsRow B 121 2 lv n xs) (hn : n ≤ 2000) (hB : B ≤ w.heap.size) (hlB : lb < B) (hxB : xb < B)
    (hm : ys.length = m) (hm0 : 0 < m) (hle : m ≤ 1000000) (hg : g < w.heap.size) (hc : ∀ j u, (bc ys)[j]? = some u → w.cell? ⟨g, j, none⟩ = some u) :
    Calls Yba.prog 22 #[gv, .pointer (some ⟨pb, 0, none⟩), .slice (some ⟨g, 0, none⟩) m cap, .string snd, ov] w fun e w' => e = .returned (.tuple #[]) ∧ BoxOut w w' lb B n lv xs who m ys := by
  have hC := boxq_any xb lb B n g m cap who lv xs ys w hx hlg hown hn hB hlB hxB hm hm0 hle hg hc
  clear hx hlg hown hc
  go_enter Yba.func22, Yba.ntmps22
  go_wp2_with fail
  refine hC.mono ?_
  rintro e w1 ⟨rfl, hO⟩
  clear hC
  go_wp2
  go_returns
  exact ⟨rfl, hO⟩
end Go.Proofs.Ybulkakzq.QueueOut
