import Derived.Test.Qxb6615168aDoorProg
import Derived.Conc.MuLone
import Derived.KernelRfl
namespace Go.Proofs
abbrev Tryd.muLink : Go.Conc.Locks.MuLink := { lock := 15, unlock := 16, ilock := 22, iunlock := 23, lockSlow := 31, unlockSlow := 34, disable := 27, enable := 29, acquire := 30, relMerge := 32, cas32 := 28, add32 := 33, tMutex := 50, tIMutex := 48, tPMutex := 62, tPIMutex := 69, tPI32 := 71, tUP := 73, tNoCopy := 45, tU32 := 46 }
theorem Tryd.muLib : Go.Conc.Locks.MuLib Tryd.prog Tryd.muLink :=
  ⟨Tryd.func15, Tryd.func16, Tryd.func22, Tryd.func23, Tryd.func27, Tryd.func29, Tryd.func30, Tryd.func32, Tryd.func28, Tryd.func33, Tryd.underlying48, Tryd.runUnderlying48, Tryd.sizeOf48, Tryd.isAgg48, Tryd.zeroValue48, Tryd.underlying50, Tryd.runUnderlying50, Tryd.sizeOf50, Tryd.isAgg50, Tryd.zeroValue50, Tryd.underlying62, Tryd.runUnderlying62, Tryd.sizeOf62, Tryd.isAgg62, Tryd.zeroValue62, Tryd.underlying69, Tryd.runUnderlying69, Tryd.sizeOf69, Tryd.isAgg69, Tryd.zeroValue69, Tryd.underlying71, Tryd.runUnderlying71, Tryd.sizeOf71, Tryd.isAgg71, Tryd.zeroValue71, Tryd.underlying73, Tryd.runUnderlying73, Tryd.sizeOf73, Tryd.isAgg73, Tryd.zeroValue73, Tryd.underlying45, Tryd.runUnderlying45, Tryd.sizeOf45, Tryd.isAgg45, Tryd.zeroValue45, Tryd.underlying21, Tryd.runUnderlying21, Tryd.sizeOf21, Tryd.isAgg21, Tryd.zeroValue21, (by kernel_rfl)⟩
end Go.Proofs
