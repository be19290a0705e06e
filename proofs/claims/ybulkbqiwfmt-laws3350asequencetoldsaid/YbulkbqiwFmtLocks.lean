/-
  The numbers under which this dump holds sync.Mutex's functions and types, and that it holds them (after the worked StatsLocks.lean; the tool that prints such a text is not in this box: typed by hand, checked by the kernel).
-/
import Derived.Test.YbulkbqiwFmtRows
import Derived.Conc.MuLone
import Derived.KernelRfl
namespace Go.Proofs.YbulkbqiwFmt
abbrev muLink : Go.Conc.Locks.MuLink := { lock := 9, unlock := 10, ilock := 12, iunlock := 13, lockSlow := 20, unlockSlow := 23, disable := 16, enable := 18, acquire := 19, relMerge := 21, cas32 := 17, add32 := 22, tMutex := 49, tIMutex := 47, tPMutex := 54, tPIMutex := 58, tPI32 := 60, tUP := 62, tNoCopy := 44, tU32 := 45 }
theorem muLib : Go.Conc.Locks.MuLib Ybaf.prog muLink :=
  ⟨Ybaf.func9, Ybaf.func10, Ybaf.func12, Ybaf.func13, Ybaf.func16, Ybaf.func18, Ybaf.func19, Ybaf.func21, Ybaf.func17, Ybaf.func22, Ybaf.underlying47, Ybaf.runUnderlying47, Ybaf.sizeOf47, Ybaf.isAgg47, Ybaf.zeroValue47, Ybaf.underlying49, Ybaf.runUnderlying49, Ybaf.sizeOf49, Ybaf.isAgg49, Ybaf.zeroValue49, Ybaf.underlying54, Ybaf.runUnderlying54, Ybaf.sizeOf54, Ybaf.isAgg54, Ybaf.zeroValue54, Ybaf.underlying58, Ybaf.runUnderlying58, Ybaf.sizeOf58, Ybaf.isAgg58, Ybaf.zeroValue58, Ybaf.underlying60, Ybaf.runUnderlying60, Ybaf.sizeOf60, Ybaf.isAgg60, Ybaf.zeroValue60, Ybaf.underlying62, Ybaf.runUnderlying62, Ybaf.sizeOf62, Ybaf.isAgg62, Ybaf.zeroValue62, Ybaf.underlying44, Ybaf.runUnderlying44, Ybaf.sizeOf44, Ybaf.isAgg44, Ybaf.zeroValue44, Ybaf.underlying21, Ybaf.runUnderlying21, Ybaf.sizeOf21, Ybaf.isAgg21, Ybaf.zeroValue21, (by kernel_rfl)⟩
end Go.Proofs.YbulkbqiwFmt
