/-
  The numbers under which this dump holds the lock's functions and types, and that it holds them.
-/
import Derived.Test.YbulkmmcRows
import Derived.Conc.MuLib
import Derived.KernelRfl
namespace Go.Proofs.Ybulkmmc
abbrev muLink : Go.Conc.Locks.MuLink := { lock := 15, unlock := 16, ilock := 20, iunlock := 21, lockSlow := 26, unlockSlow := 29, disable := 22, enable := 24, acquire := 25, relMerge := 27, cas32 := 23, add32 := 28, tMutex := 34, tIMutex := 32, tPMutex := 82, tPIMutex := 84, tPI32 := 86, tUP := 88, tNoCopy := 29, tU32 := 30 }
theorem muLib : Go.Conc.Locks.MuLib Yba.prog muLink :=
  ⟨Yba.func15, Yba.func16, Yba.func20, Yba.func21, Yba.func22, Yba.func24, Yba.func25, Yba.func27, Yba.func23, Yba.func28, Yba.underlying32, Yba.runUnderlying32, Yba.sizeOf32, Yba.isAgg32, Yba.zeroValue32, Yba.underlying34, Yba.runUnderlying34, Yba.sizeOf34, Yba.isAgg34, Yba.zeroValue34, Yba.underlying82, Yba.runUnderlying82, Yba.sizeOf82, Yba.isAgg82, Yba.zeroValue82, Yba.underlying84, Yba.runUnderlying84, Yba.sizeOf84, Yba.isAgg84, Yba.zeroValue84, Yba.underlying86, Yba.runUnderlying86, Yba.sizeOf86, Yba.isAgg86, Yba.zeroValue86, Yba.underlying88, Yba.runUnderlying88, Yba.sizeOf88, Yba.isAgg88, Yba.zeroValue88, Yba.underlying29, Yba.runUnderlying29, Yba.sizeOf29, Yba.isAgg29, Yba.zeroValue29, Yba.underlying21, Yba.runUnderlying21, Yba.sizeOf21, Yba.isAgg21, Yba.zeroValue21, (by kernel_rfl)⟩
end Go.Proofs.Ybulkmmc
