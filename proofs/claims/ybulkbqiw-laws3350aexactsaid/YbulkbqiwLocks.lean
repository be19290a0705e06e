/-
  The numbers under which this dump holds sync.Mutex's functions and types, and that it holds them (after the worked StatsLocks.lean; the tool that prints such a text is not in this box: typed by hand, checked by the kernel).
-/
import Derived.Test.YbulkbqiwRows
import Derived.Conc.MuLone
import Derived.KernelRfl
namespace Go.Proofs.Ybulkbqiw
abbrev muLink : Go.Conc.Locks.MuLink := { lock := 5, unlock := 6, ilock := 7, iunlock := 8, lockSlow := 13, unlockSlow := 16, disable := 9, enable := 11, acquire := 12, relMerge := 14, cas32 := 10, add32 := 15, tMutex := 35, tIMutex := 33, tPMutex := 43, tPIMutex := 44, tPI32 := 46, tUP := 48, tNoCopy := 30, tU32 := 31 }
theorem muLib : Go.Conc.Locks.MuLib Yba.prog muLink :=
  ⟨Yba.func5, Yba.func6, Yba.func7, Yba.func8, Yba.func9, Yba.func11, Yba.func12, Yba.func14, Yba.func10, Yba.func15, Yba.underlying33, Yba.runUnderlying33, Yba.sizeOf33, Yba.isAgg33, Yba.zeroValue33, Yba.underlying35, Yba.runUnderlying35, Yba.sizeOf35, Yba.isAgg35, Yba.zeroValue35, Yba.underlying43, Yba.runUnderlying43, Yba.sizeOf43, Yba.isAgg43, Yba.zeroValue43, Yba.underlying44, Yba.runUnderlying44, Yba.sizeOf44, Yba.isAgg44, Yba.zeroValue44, Yba.underlying46, Yba.runUnderlying46, Yba.sizeOf46, Yba.isAgg46, Yba.zeroValue46, Yba.underlying48, Yba.runUnderlying48, Yba.sizeOf48, Yba.isAgg48, Yba.zeroValue48, Yba.underlying30, Yba.runUnderlying30, Yba.sizeOf30, Yba.isAgg30, Yba.zeroValue30, Yba.underlying21, Yba.runUnderlying21, Yba.sizeOf21, Yba.isAgg21, Yba.zeroValue21, (by kernel_rfl)⟩
end Go.Proofs.Ybulkbqiw
