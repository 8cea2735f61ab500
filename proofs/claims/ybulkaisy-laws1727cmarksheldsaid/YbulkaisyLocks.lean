/-
  The numbers under which this dump holds sync.Mutex's functions and types, and that it holds them (Derived/Conc/MuLib.lean). After the kit's StatsLocks.lean, turned to this program by hand; the kernel checks every number.
-/
import Derived.Test.YbulkaisyChecked
import Derived.Conc.MuLone
import Derived.KernelRfl
namespace Go.Proofs.Ybulkaisy
abbrev muLink : Go.Conc.Locks.MuLink := { lock := 10, unlock := 12, ilock := 13, iunlock := 16, lockSlow := 21, unlockSlow := 24, disable := 17, enable := 19, acquire := 20, relMerge := 22, cas32 := 18, add32 := 23, tMutex := 71, tIMutex := 69, tPMutex := 80, tPIMutex := 83, tPI32 := 85, tUP := 87, tNoCopy := 58, tU32 := 24 }
theorem muLib : Go.Conc.Locks.MuLib Yba.prog muLink :=
  ⟨Yba.func10, Yba.func12, Yba.func13, Yba.func16, Yba.func17, Yba.func19, Yba.func20, Yba.func22, Yba.func18, Yba.func23, Yba.underlying69, Yba.runUnderlying69, Yba.sizeOf69, Yba.isAgg69, Yba.zeroValue69, Yba.underlying71, Yba.runUnderlying71, Yba.sizeOf71, Yba.isAgg71, Yba.zeroValue71, Yba.underlying80, Yba.runUnderlying80, Yba.sizeOf80, Yba.isAgg80, Yba.zeroValue80, Yba.underlying83, Yba.runUnderlying83, Yba.sizeOf83, Yba.isAgg83, Yba.zeroValue83, Yba.underlying85, Yba.runUnderlying85, Yba.sizeOf85, Yba.isAgg85, Yba.zeroValue85, Yba.underlying87, Yba.runUnderlying87, Yba.sizeOf87, Yba.isAgg87, Yba.zeroValue87, Yba.underlying58, Yba.runUnderlying58, Yba.sizeOf58, Yba.isAgg58, Yba.zeroValue58, Yba.underlying21, Yba.runUnderlying21, Yba.sizeOf21, Yba.isAgg21, Yba.zeroValue21, (by kernel_rfl)⟩
end Go.Proofs.Ybulkaisy
