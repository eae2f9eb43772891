/-
  The numbers under which this dump holds sync.Mutex's functions and types. Own work, after the guide's worked text of the same kind.
-/
import Derived.Test.YbulkbsboRows
import Derived.Conc.MuLone
import Derived.Conc.MuData
import Derived.KernelRfl
namespace Go.Proofs.Ybulkbsbo
abbrev muLink : Go.Conc.Locks.MuLink := { lock := 28, unlock := 29, ilock := 39, iunlock := 40, lockSlow := 47, unlockSlow := 50, disable := 43, enable := 45, acquire := 46, relMerge := 48, cas32 := 44, add32 := 49, tMutex := 31, tIMutex := 29, tPMutex := 113, tPIMutex := 115, tPI32 := 117, tUP := 119, tNoCopy := 26, tU32 := 27 }
theorem muLib : Go.Conc.Locks.MuLib Yba.prog muLink :=
  ⟨Yba.func28, Yba.func29, Yba.func39, Yba.func40, Yba.func43, Yba.func45, Yba.func46, Yba.func48, Yba.func44, Yba.func49, Yba.underlying29, Yba.runUnderlying29, Yba.sizeOf29, Yba.isAgg29, Yba.zeroValue29, Yba.underlying31, Yba.runUnderlying31, Yba.sizeOf31, Yba.isAgg31, Yba.zeroValue31, Yba.underlying113, Yba.runUnderlying113, Yba.sizeOf113, Yba.isAgg113, Yba.zeroValue113, Yba.underlying115, Yba.runUnderlying115, Yba.sizeOf115, Yba.isAgg115, Yba.zeroValue115, Yba.underlying117, Yba.runUnderlying117, Yba.sizeOf117, Yba.isAgg117, Yba.zeroValue117, Yba.underlying119, Yba.runUnderlying119, Yba.sizeOf119, Yba.isAgg119, Yba.zeroValue119, Yba.underlying26, Yba.runUnderlying26, Yba.sizeOf26, Yba.isAgg26, Yba.zeroValue26, Yba.underlying21, Yba.runUnderlying21, Yba.sizeOf21, Yba.isAgg21, Yba.zeroValue21, (by kernel_rfl)⟩
end Go.Proofs.Ybulkbsbo
