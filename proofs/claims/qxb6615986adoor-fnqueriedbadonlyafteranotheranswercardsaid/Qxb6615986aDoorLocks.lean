import Derived.Test.Qxb6615986aDoorProg
import Derived.Conc.RwLib
import Derived.Conc.MuData
import Derived.KernelRfl
namespace Go.Proofs.Qxb6615986aDoor
abbrev muLink : Go.Conc.Locks.MuLink := { lock := 17, unlock := 18, ilock := 32, iunlock := 33, lockSlow := 44, unlockSlow := 47, disable := 40, enable := 42, acquire := 43, relMerge := 45, cas32 := 41, add32 := 46, tMutex := 68, tIMutex := 66, tPMutex := 89, tPIMutex := 96, tPI32 := 98, tUP := 100, tNoCopy := 63, tU32 := 64 }
theorem muLib : Go.Conc.Locks.MuLib Tryd.prog muLink :=
  ⟨Tryd.func17, Tryd.func18, Tryd.func32, Tryd.func33, Tryd.func40, Tryd.func42, Tryd.func43, Tryd.func45, Tryd.func41, Tryd.func46, Tryd.underlying66, Tryd.runUnderlying66, Tryd.sizeOf66, Tryd.isAgg66, Tryd.zeroValue66, Tryd.underlying68, Tryd.runUnderlying68, Tryd.sizeOf68, Tryd.isAgg68, Tryd.zeroValue68, Tryd.underlying89, Tryd.runUnderlying89, Tryd.sizeOf89, Tryd.isAgg89, Tryd.zeroValue89, Tryd.underlying96, Tryd.runUnderlying96, Tryd.sizeOf96, Tryd.isAgg96, Tryd.zeroValue96, Tryd.underlying98, Tryd.runUnderlying98, Tryd.sizeOf98, Tryd.isAgg98, Tryd.zeroValue98, Tryd.underlying100, Tryd.runUnderlying100, Tryd.sizeOf100, Tryd.isAgg100, Tryd.zeroValue100, Tryd.underlying63, Tryd.runUnderlying63, Tryd.sizeOf63, Tryd.isAgg63, Tryd.zeroValue63, Tryd.underlying21, Tryd.runUnderlying21, Tryd.sizeOf21, Tryd.isAgg21, Tryd.zeroValue21, (by kernel_rfl)⟩
end Go.Proofs.Qxb6615986aDoor
