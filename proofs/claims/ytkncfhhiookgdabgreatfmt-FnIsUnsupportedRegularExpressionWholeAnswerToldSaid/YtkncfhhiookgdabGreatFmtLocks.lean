/-
  The numbers under which the dump holds the mutex's functions and types, and that it holds them.
-/
import Derived.Test.YtkncfhhiookgdabGreatFmtKit
import Derived.Conc.MuLone
import Derived.Conc.MuLib
import Derived.KernelRfl
namespace Go.Proofs
abbrev Tryz.muLink : Go.Conc.Locks.MuLink := { lock := 19, unlock := 20, ilock := 37, iunlock := 38, lockSlow := 49, unlockSlow := 52, disable := 45, enable := 47, acquire := 48, relMerge := 50, cas32 := 46, add32 := 51, tMutex := 172, tIMutex := 170, tPMutex := 189, tPIMutex := 198, tPI32 := 200, tUP := 202, tNoCopy := 168, tU32 := 47 }
theorem Tryz.muLib : Go.Conc.Locks.MuLib Tryz.prog Tryz.muLink :=
  ⟨Tryz.func19, Tryz.func20, Tryz.func37, Tryz.func38, Tryz.func45, Tryz.func47, Tryz.func48, Tryz.func50, Tryz.func46, Tryz.func51, Tryz.underlying170, Tryz.runUnderlying170, Tryz.sizeOf170, Tryz.isAgg170, Tryz.zeroValue170, Tryz.underlying172, Tryz.runUnderlying172, Tryz.sizeOf172, Tryz.isAgg172, Tryz.zeroValue172, Tryz.underlying189, Tryz.runUnderlying189, Tryz.sizeOf189, Tryz.isAgg189, Tryz.zeroValue189, Tryz.underlying198, Tryz.runUnderlying198, Tryz.sizeOf198, Tryz.isAgg198, Tryz.zeroValue198, Tryz.underlying200, Tryz.runUnderlying200, Tryz.sizeOf200, Tryz.isAgg200, Tryz.zeroValue200, Tryz.underlying202, Tryz.runUnderlying202, Tryz.sizeOf202, Tryz.isAgg202, Tryz.zeroValue202, Tryz.underlying168, Tryz.runUnderlying168, Tryz.sizeOf168, Tryz.isAgg168, Tryz.zeroValue168, Tryz.underlying21, Tryz.runUnderlying21, Tryz.sizeOf21, Tryz.isAgg21, Tryz.zeroValue21, (by kernel_rfl)⟩
end Go.Proofs
