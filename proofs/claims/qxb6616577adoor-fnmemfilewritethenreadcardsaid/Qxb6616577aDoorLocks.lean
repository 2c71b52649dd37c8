import Derived.Test.Qxb6616577aDoorProg
import Derived.Conc.MuLib
import Derived.Conc.MuLone
import Derived.KernelRfl
namespace Go.Proofs
abbrev Tryd.muLink : Go.Conc.Locks.MuLink := { lock := 22, unlock := 23, ilock := 28, iunlock := 29, lockSlow := 39, unlockSlow := 42, disable := 35, enable := 37, acquire := 38, relMerge := 40, cas32 := 36, add32 := 41, tMutex := 52, tIMutex := 50, tPMutex := 75, tPIMutex := 82, tPI32 := 84, tUP := 86, tNoCopy := 47, tU32 := 48 }
theorem Tryd.muLib : Go.Conc.Locks.MuLib Tryd.prog Tryd.muLink :=
  ⟨Tryd.func22, Tryd.func23, Tryd.func28, Tryd.func29, Tryd.func35, Tryd.func37, Tryd.func38, Tryd.func40, Tryd.func36, Tryd.func41, Tryd.underlying50, Tryd.runUnderlying50, Tryd.sizeOf50, Tryd.isAgg50, Tryd.zeroValue50, Tryd.underlying52, Tryd.runUnderlying52, Tryd.sizeOf52, Tryd.isAgg52, Tryd.zeroValue52, Tryd.underlying75, Tryd.runUnderlying75, Tryd.sizeOf75, Tryd.isAgg75, Tryd.zeroValue75, Tryd.underlying82, Tryd.runUnderlying82, Tryd.sizeOf82, Tryd.isAgg82, Tryd.zeroValue82, Tryd.underlying84, Tryd.runUnderlying84, Tryd.sizeOf84, Tryd.isAgg84, Tryd.zeroValue84, Tryd.underlying86, Tryd.runUnderlying86, Tryd.sizeOf86, Tryd.isAgg86, Tryd.zeroValue86, Tryd.underlying47, Tryd.runUnderlying47, Tryd.sizeOf47, Tryd.isAgg47, Tryd.zeroValue47, Tryd.underlying21, Tryd.runUnderlying21, Tryd.sizeOf21, Tryd.isAgg21, Tryd.zeroValue21, (by kernel_rfl)⟩
end Go.Proofs
