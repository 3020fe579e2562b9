/-
  The numbers under which the dump holds the mutex's functions and types, and that it holds them.
-/
import Derived.Test.YtfbjlgjlbndmkadDoorKit
import Derived.Conc.MuLone
import Derived.Conc.MuLib
import Derived.KernelRfl
namespace Go.Proofs
abbrev Tryd.muLink : Go.Conc.Locks.MuLink := { lock := 10, unlock := 11, ilock := 17, iunlock := 18, lockSlow := 25, unlockSlow := 28, disable := 21, enable := 23, acquire := 24, relMerge := 26, cas32 := 22, add32 := 27, tMutex := 175, tIMutex := 173, tPMutex := 179, tPIMutex := 185, tPI32 := 187, tUP := 189, tNoCopy := 171, tU32 := 47 }
theorem Tryd.muLib : Go.Conc.Locks.MuLib Tryd.prog Tryd.muLink :=
  ⟨Tryd.func10, Tryd.func11, Tryd.func17, Tryd.func18, Tryd.func21, Tryd.func23, Tryd.func24, Tryd.func26, Tryd.func22, Tryd.func27, Tryd.underlying173, Tryd.runUnderlying173, Tryd.sizeOf173, Tryd.isAgg173, Tryd.zeroValue173, Tryd.underlying175, Tryd.runUnderlying175, Tryd.sizeOf175, Tryd.isAgg175, Tryd.zeroValue175, Tryd.underlying179, Tryd.runUnderlying179, Tryd.sizeOf179, Tryd.isAgg179, Tryd.zeroValue179, Tryd.underlying185, Tryd.runUnderlying185, Tryd.sizeOf185, Tryd.isAgg185, Tryd.zeroValue185, Tryd.underlying187, Tryd.runUnderlying187, Tryd.sizeOf187, Tryd.isAgg187, Tryd.zeroValue187, Tryd.underlying189, Tryd.runUnderlying189, Tryd.sizeOf189, Tryd.isAgg189, Tryd.zeroValue189, Tryd.underlying171, Tryd.runUnderlying171, Tryd.sizeOf171, Tryd.isAgg171, Tryd.zeroValue171, Tryd.underlying21, Tryd.runUnderlying21, Tryd.sizeOf21, Tryd.isAgg21, Tryd.zeroValue21, (by kernel_rfl)⟩
end Go.Proofs
