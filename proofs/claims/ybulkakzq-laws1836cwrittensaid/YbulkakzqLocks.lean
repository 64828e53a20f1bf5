/-
  The numbers under which this dump holds sync.Mutex's functions and types, and that it holds them (after the guide's StatsLocks; the tool that prints it is not here: typed by hand, the kernel checks every number).
-/
import Derived.Test.YbulkakzqRows
import Derived.Conc.MuLone
import Derived.KernelRfl
namespace Go.Proofs.Ybulkakzq.Locks
abbrev muLink : Go.Conc.Locks.MuLink := { lock := 26, unlock := 28, ilock := 36, iunlock := 37, lockSlow := 44, unlockSlow := 47, disable := 40, enable := 42, acquire := 43, relMerge := 45, cas32 := 41, add32 := 46, tMutex := 88, tIMutex := 86, tPMutex := 169, tPIMutex := 177, tPI32 := 179, tUP := 181, tNoCopy := 83, tU32 := 84 }
theorem muLib : Go.Conc.Locks.MuLib Yba.prog muLink :=
  ⟨Yba.func26, Yba.func28, Yba.func36, Yba.func37, Yba.func40, Yba.func42, Yba.func43, Yba.func45, Yba.func41, Yba.func46, Yba.underlying86, Yba.runUnderlying86, Yba.sizeOf86, Yba.isAgg86, Yba.zeroValue86, Yba.underlying88, Yba.runUnderlying88, Yba.sizeOf88, Yba.isAgg88, Yba.zeroValue88, Yba.underlying169, Yba.runUnderlying169, Yba.sizeOf169, Yba.isAgg169, Yba.zeroValue169, Yba.underlying177, Yba.runUnderlying177, Yba.sizeOf177, Yba.isAgg177, Yba.zeroValue177, Yba.underlying179, Yba.runUnderlying179, Yba.sizeOf179, Yba.isAgg179, Yba.zeroValue179, Yba.underlying181, Yba.runUnderlying181, Yba.sizeOf181, Yba.isAgg181, Yba.zeroValue181, Yba.underlying83, Yba.runUnderlying83, Yba.sizeOf83, Yba.isAgg83, Yba.zeroValue83, Yba.underlying21, Yba.runUnderlying21, Yba.sizeOf21, Yba.isAgg21, Yba.zeroValue21, (by kernel_rfl)⟩
end Go.Proofs.Ybulkakzq.Locks
