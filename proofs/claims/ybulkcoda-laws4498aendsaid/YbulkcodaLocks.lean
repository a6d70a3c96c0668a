import Derived.Test.YbulkcodaProg
import Derived.Conc.RwLib
import Derived.Conc.MuData
import Derived.KernelRfl
namespace Go.Proofs
abbrev Yba.muLink : Go.Conc.Locks.MuLink := { lock := 23, unlock := 24, ilock := 28, iunlock := 29, lockSlow := 36, unlockSlow := 39, disable := 32, enable := 34, acquire := 35, relMerge := 37, cas32 := 33, add32 := 38, tMutex := 97, tIMutex := 95, tPMutex := 115, tPIMutex := 118, tPI32 := 120, tUP := 122, tNoCopy := 92, tU32 := 93 }
theorem Yba.muLib : Go.Conc.Locks.MuLib Yba.prog Yba.muLink :=
  ⟨Yba.func23, Yba.func24, Yba.func28, Yba.func29, Yba.func32, Yba.func34, Yba.func35, Yba.func37, Yba.func33, Yba.func38, Yba.underlying95, Yba.runUnderlying95, Yba.sizeOf95, Yba.isAgg95, Yba.zeroValue95, Yba.underlying97, Yba.runUnderlying97, Yba.sizeOf97, Yba.isAgg97, Yba.zeroValue97, Yba.underlying115, Yba.runUnderlying115, Yba.sizeOf115, Yba.isAgg115, Yba.zeroValue115, Yba.underlying118, Yba.runUnderlying118, Yba.sizeOf118, Yba.isAgg118, Yba.zeroValue118, Yba.underlying120, Yba.runUnderlying120, Yba.sizeOf120, Yba.isAgg120, Yba.zeroValue120, Yba.underlying122, Yba.runUnderlying122, Yba.sizeOf122, Yba.isAgg122, Yba.zeroValue122, Yba.underlying92, Yba.runUnderlying92, Yba.sizeOf92, Yba.isAgg92, Yba.zeroValue92, Yba.underlying21, Yba.runUnderlying21, Yba.sizeOf21, Yba.isAgg21, Yba.zeroValue21, (by kernel_rfl)⟩
end Go.Proofs
