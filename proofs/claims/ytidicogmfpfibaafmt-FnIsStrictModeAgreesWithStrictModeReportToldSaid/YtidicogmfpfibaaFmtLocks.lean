/-
  The numbers under which the dump holds the mutex's functions and types, and that it holds them.
-/
import Derived.Test.YtidicogmfpfibaaFmtKit
import Derived.Conc.MuLone
import Derived.Conc.MuLib
import Derived.KernelRfl
namespace Go.Proofs
abbrev Tryf.muLink : Go.Conc.Locks.MuLink := { lock := 20, unlock := 21, ilock := 29, iunlock := 30, lockSlow := 37, unlockSlow := 40, disable := 33, enable := 35, acquire := 36, relMerge := 38, cas32 := 34, add32 := 39, tMutex := 194, tIMutex := 192, tPMutex := 201, tPIMutex := 207, tPI32 := 209, tUP := 211, tNoCopy := 190, tU32 := 54 }
theorem Tryf.muLib : Go.Conc.Locks.MuLib Tryf.prog Tryf.muLink :=
  ⟨Tryf.func20, Tryf.func21, Tryf.func29, Tryf.func30, Tryf.func33, Tryf.func35, Tryf.func36, Tryf.func38, Tryf.func34, Tryf.func39, Tryf.underlying192, Tryf.runUnderlying192, Tryf.sizeOf192, Tryf.isAgg192, Tryf.zeroValue192, Tryf.underlying194, Tryf.runUnderlying194, Tryf.sizeOf194, Tryf.isAgg194, Tryf.zeroValue194, Tryf.underlying201, Tryf.runUnderlying201, Tryf.sizeOf201, Tryf.isAgg201, Tryf.zeroValue201, Tryf.underlying207, Tryf.runUnderlying207, Tryf.sizeOf207, Tryf.isAgg207, Tryf.zeroValue207, Tryf.underlying209, Tryf.runUnderlying209, Tryf.sizeOf209, Tryf.isAgg209, Tryf.zeroValue209, Tryf.underlying211, Tryf.runUnderlying211, Tryf.sizeOf211, Tryf.isAgg211, Tryf.zeroValue211, Tryf.underlying190, Tryf.runUnderlying190, Tryf.sizeOf190, Tryf.isAgg190, Tryf.zeroValue190, Tryf.underlying21, Tryf.runUnderlying21, Tryf.sizeOf21, Tryf.isAgg21, Tryf.zeroValue21, (by kernel_rfl)⟩
end Go.Proofs
