/- The numbers under which this dump holds the library's lock's functions and types, and that it holds them (after the guide's StatsLocks.lean). -/
import Derived.Test.Qxb6615011aDoorRows
import Derived.Conc.MuLib
import Derived.Conc.MuLone
import Derived.KernelRfl
namespace Go.Proofs.Qxb6615011aDoor
abbrev muLink : Go.Conc.Locks.MuLink := { lock := 28, unlock := 29, ilock := 31, iunlock := 32, lockSlow := 38, unlockSlow := 41, disable := 34, enable := 36, acquire := 37, relMerge := 39, cas32 := 35, add32 := 40, tMutex := 64, tIMutex := 62, tPMutex := 86, tPIMutex := 88, tPI32 := 90, tUP := 92, tNoCopy := 59, tU32 := 60 }
theorem muLib : Go.Conc.Locks.MuLib Tryd.prog muLink :=
  ⟨Tryd.func28, Tryd.func29, Tryd.func31, Tryd.func32, Tryd.func34, Tryd.func36, Tryd.func37, Tryd.func39, Tryd.func35, Tryd.func40, Tryd.underlying62, Tryd.runUnderlying62, Tryd.sizeOf62, Tryd.isAgg62, Tryd.zeroValue62, Tryd.underlying64, Tryd.runUnderlying64, Tryd.sizeOf64, Tryd.isAgg64, Tryd.zeroValue64, Tryd.underlying86, Tryd.runUnderlying86, Tryd.sizeOf86, Tryd.isAgg86, Tryd.zeroValue86, Tryd.underlying88, Tryd.runUnderlying88, Tryd.sizeOf88, Tryd.isAgg88, Tryd.zeroValue88, Tryd.underlying90, Tryd.runUnderlying90, Tryd.sizeOf90, Tryd.isAgg90, Tryd.zeroValue90, Tryd.underlying92, Tryd.runUnderlying92, Tryd.sizeOf92, Tryd.isAgg92, Tryd.zeroValue92, Tryd.underlying59, Tryd.runUnderlying59, Tryd.sizeOf59, Tryd.isAgg59, Tryd.zeroValue59, Tryd.underlying21, Tryd.runUnderlying21, Tryd.sizeOf21, Tryd.isAgg21, Tryd.zeroValue21, (by kernel_rfl)⟩
end Go.Proofs.Qxb6615011aDoor
