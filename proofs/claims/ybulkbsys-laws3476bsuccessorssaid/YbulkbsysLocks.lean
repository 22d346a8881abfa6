/-
  RINGHOP: the numbers under which this dump holds sync.Mutex's functions and types, and that it holds them.
-/
import Derived.Test.YbulkbsysProg
import Derived.Conc.MuLone
import Derived.KernelRfl
namespace Go.Proofs
abbrev Yba.muLink : Go.Conc.Locks.MuLink := { lock := 13, unlock := 14, ilock := 19, iunlock := 20, lockSlow := 32, unlockSlow := 35, disable := 28, enable := 30, acquire := 31, relMerge := 33, cas32 := 29, add32 := 34, tMutex := 41, tIMutex := 39, tPMutex := 67, tPIMutex := 74, tPI32 := 76, tUP := 78, tNoCopy := 36, tU32 := 37 }
theorem Yba.muLib : Go.Conc.Locks.MuLib Yba.prog Yba.muLink :=
  ⟨Yba.func13, Yba.func14, Yba.func19, Yba.func20, Yba.func28, Yba.func30, Yba.func31, Yba.func33, Yba.func29, Yba.func34, Yba.underlying39, Yba.runUnderlying39, Yba.sizeOf39, Yba.isAgg39, Yba.zeroValue39, Yba.underlying41, Yba.runUnderlying41, Yba.sizeOf41, Yba.isAgg41, Yba.zeroValue41, Yba.underlying67, Yba.runUnderlying67, Yba.sizeOf67, Yba.isAgg67, Yba.zeroValue67, Yba.underlying74, Yba.runUnderlying74, Yba.sizeOf74, Yba.isAgg74, Yba.zeroValue74, Yba.underlying76, Yba.runUnderlying76, Yba.sizeOf76, Yba.isAgg76, Yba.zeroValue76, Yba.underlying78, Yba.runUnderlying78, Yba.sizeOf78, Yba.isAgg78, Yba.zeroValue78, Yba.underlying36, Yba.runUnderlying36, Yba.sizeOf36, Yba.isAgg36, Yba.zeroValue36, Yba.underlying21, Yba.runUnderlying21, Yba.sizeOf21, Yba.isAgg21, Yba.zeroValue21, (by kernel_rfl)⟩
end Go.Proofs
