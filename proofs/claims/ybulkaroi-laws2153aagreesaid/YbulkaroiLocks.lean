import Derived.Test.YbulkaroiRows
import Derived.Conc.MuLib
import Derived.Conc.MuLone
import Derived.KernelRfl
set_option linter.unusedVariables false
namespace Go.Proofs.Ybulkaroi
abbrev Yba.muLink : Go.Conc.Locks.MuLink := { lock := 10, unlock := 11, ilock := 12, iunlock := 13, lockSlow := 18, unlockSlow := 21, disable := 14, enable := 16, acquire := 17, relMerge := 19, cas32 := 15, add32 := 20, tMutex := 30, tIMutex := 28, tPMutex := 75, tPIMutex := 76, tPI32 := 78, tUP := 80, tNoCopy := 25, tU32 := 26 }
theorem Yba.muLib : Go.Conc.Locks.MuLib Yba.prog Yba.muLink :=
  ⟨Yba.func10, Yba.func11, Yba.func12, Yba.func13, Yba.func14, Yba.func16, Yba.func17, Yba.func19, Yba.func15, Yba.func20, Yba.underlying28, Yba.runUnderlying28, Yba.sizeOf28, Yba.isAgg28, Yba.zeroValue28, Yba.underlying30, Yba.runUnderlying30, Yba.sizeOf30, Yba.isAgg30, Yba.zeroValue30, Yba.underlying75, Yba.runUnderlying75, Yba.sizeOf75, Yba.isAgg75, Yba.zeroValue75, Yba.underlying76, Yba.runUnderlying76, Yba.sizeOf76, Yba.isAgg76, Yba.zeroValue76, Yba.underlying78, Yba.runUnderlying78, Yba.sizeOf78, Yba.isAgg78, Yba.zeroValue78, Yba.underlying80, Yba.runUnderlying80, Yba.sizeOf80, Yba.isAgg80, Yba.zeroValue80, Yba.underlying25, Yba.runUnderlying25, Yba.sizeOf25, Yba.isAgg25, Yba.zeroValue25, Yba.underlying21, Yba.runUnderlying21, Yba.sizeOf21, Yba.isAgg21, Yba.zeroValue21, (by kernel_rfl)⟩
end Go.Proofs.Ybulkaroi
