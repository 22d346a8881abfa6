/-
  TIDEWATCH: the numbers under which this dump holds sync.Mutex's functions and types, and that it holds them.
-/
import Derived.Test.YbulkbtaiProg
import Derived.Conc.MuLone
import Derived.KernelRfl
namespace Go.Proofs
abbrev Yba.muLink : Go.Conc.Locks.MuLink := { lock := 7, unlock := 8, ilock := 9, iunlock := 10, lockSlow := 15, unlockSlow := 18, disable := 11, enable := 13, acquire := 14, relMerge := 16, cas32 := 12, add32 := 17, tMutex := 30, tIMutex := 28, tPMutex := 43, tPIMutex := 44, tPI32 := 46, tUP := 48, tNoCopy := 25, tU32 := 26 }
theorem Yba.muLib : Go.Conc.Locks.MuLib Yba.prog Yba.muLink :=
  ⟨Yba.func7, Yba.func8, Yba.func9, Yba.func10, Yba.func11, Yba.func13, Yba.func14, Yba.func16, Yba.func12, Yba.func17, Yba.underlying28, Yba.runUnderlying28, Yba.sizeOf28, Yba.isAgg28, Yba.zeroValue28, Yba.underlying30, Yba.runUnderlying30, Yba.sizeOf30, Yba.isAgg30, Yba.zeroValue30, Yba.underlying43, Yba.runUnderlying43, Yba.sizeOf43, Yba.isAgg43, Yba.zeroValue43, Yba.underlying44, Yba.runUnderlying44, Yba.sizeOf44, Yba.isAgg44, Yba.zeroValue44, Yba.underlying46, Yba.runUnderlying46, Yba.sizeOf46, Yba.isAgg46, Yba.zeroValue46, Yba.underlying48, Yba.runUnderlying48, Yba.sizeOf48, Yba.isAgg48, Yba.zeroValue48, Yba.underlying25, Yba.runUnderlying25, Yba.sizeOf25, Yba.isAgg25, Yba.zeroValue25, Yba.underlying21, Yba.runUnderlying21, Yba.sizeOf21, Yba.isAgg21, Yba.zeroValue21, (by kernel_rfl)⟩
end Go.Proofs
