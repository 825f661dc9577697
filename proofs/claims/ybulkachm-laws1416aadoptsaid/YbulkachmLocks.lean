/-
  The numbers under which this dump holds sync.Mutex's functions and types, and that it holds them (after the guide's worked RegLocks).
-/
import Derived.Test.YbulkachmProg
import Derived.Conc.MuLone
import Derived.KernelRfl
namespace Go.Proofs
abbrev Yba.muLink : Go.Conc.Locks.MuLink := { lock := 14, unlock := 15, ilock := 17, iunlock := 18, lockSlow := 25, unlockSlow := 28, disable := 21, enable := 23, acquire := 24, relMerge := 26, cas32 := 22, add32 := 27, tMutex := 37, tIMutex := 35, tPMutex := 81, tPIMutex := 86, tPI32 := 88, tUP := 90, tNoCopy := 32, tU32 := 33 }
theorem Yba.muLib : Go.Conc.Locks.MuLib Yba.prog Yba.muLink :=
  ⟨Yba.func14, Yba.func15, Yba.func17, Yba.func18, Yba.func21, Yba.func23, Yba.func24, Yba.func26, Yba.func22, Yba.func27, Yba.underlying35, Yba.runUnderlying35, Yba.sizeOf35, Yba.isAgg35, Yba.zeroValue35, Yba.underlying37, Yba.runUnderlying37, Yba.sizeOf37, Yba.isAgg37, Yba.zeroValue37, Yba.underlying81, Yba.runUnderlying81, Yba.sizeOf81, Yba.isAgg81, Yba.zeroValue81, Yba.underlying86, Yba.runUnderlying86, Yba.sizeOf86, Yba.isAgg86, Yba.zeroValue86, Yba.underlying88, Yba.runUnderlying88, Yba.sizeOf88, Yba.isAgg88, Yba.zeroValue88, Yba.underlying90, Yba.runUnderlying90, Yba.sizeOf90, Yba.isAgg90, Yba.zeroValue90, Yba.underlying32, Yba.runUnderlying32, Yba.sizeOf32, Yba.isAgg32, Yba.zeroValue32, Yba.underlying21, Yba.runUnderlying21, Yba.sizeOf21, Yba.isAgg21, Yba.zeroValue21, (by kernel_rfl)⟩
end Go.Proofs
