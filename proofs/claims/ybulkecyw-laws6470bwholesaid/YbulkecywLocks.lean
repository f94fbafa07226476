/-
  LawS6470BWhole: the numbers under which this dump holds sync.Mutex's functions and types, and that it holds them (after the guide's worked StatsLocks). Checked by the kernel.
-/
import Derived.Test.YbulkecywProg
import Derived.Conc.RwLib
import Derived.Conc.MuData
import Derived.KernelRfl
namespace Go.Proofs
abbrev Yba.muLink : Go.Conc.Locks.MuLink := { lock := 6, unlock := 7, ilock := 9, iunlock := 10, lockSlow := 15, unlockSlow := 18, disable := 11, enable := 13, acquire := 14, relMerge := 16, cas32 := 12, add32 := 17, tMutex := 30, tIMutex := 28, tPMutex := 49, tPIMutex := 50, tPI32 := 52, tUP := 54, tNoCopy := 25, tU32 := 26 }
theorem Yba.muLib : Go.Conc.Locks.MuLib Yba.prog Yba.muLink :=
  ⟨Yba.func6, Yba.func7, Yba.func9, Yba.func10, Yba.func11, Yba.func13, Yba.func14, Yba.func16, Yba.func12, Yba.func17, Yba.underlying28, Yba.runUnderlying28, Yba.sizeOf28, Yba.isAgg28, Yba.zeroValue28, Yba.underlying30, Yba.runUnderlying30, Yba.sizeOf30, Yba.isAgg30, Yba.zeroValue30, Yba.underlying49, Yba.runUnderlying49, Yba.sizeOf49, Yba.isAgg49, Yba.zeroValue49, Yba.underlying50, Yba.runUnderlying50, Yba.sizeOf50, Yba.isAgg50, Yba.zeroValue50, Yba.underlying52, Yba.runUnderlying52, Yba.sizeOf52, Yba.isAgg52, Yba.zeroValue52, Yba.underlying54, Yba.runUnderlying54, Yba.sizeOf54, Yba.isAgg54, Yba.zeroValue54, Yba.underlying25, Yba.runUnderlying25, Yba.sizeOf25, Yba.isAgg25, Yba.zeroValue25, Yba.underlying21, Yba.runUnderlying21, Yba.sizeOf21, Yba.isAgg21, Yba.zeroValue21, (by kernel_rfl)⟩
end Go.Proofs
