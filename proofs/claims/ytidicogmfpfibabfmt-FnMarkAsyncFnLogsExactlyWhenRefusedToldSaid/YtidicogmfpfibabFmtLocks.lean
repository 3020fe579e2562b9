/-
  The numbers under which the dump holds the mutex's functions and types, and that it holds them.
-/
import Derived.Test.YtidicogmfpfibabFmtKit
import Derived.Conc.MuLone
import Derived.Conc.MuLib
import Derived.KernelRfl
namespace Go.Proofs
abbrev Tryf.muLink : Go.Conc.Locks.MuLink := { lock := 12, unlock := 13, ilock := 20, iunlock := 21, lockSlow := 34, unlockSlow := 37, disable := 30, enable := 32, acquire := 33, relMerge := 35, cas32 := 31, add32 := 36, tMutex := 174, tIMutex := 172, tPMutex := 178, tPIMutex := 190, tPI32 := 192, tUP := 194, tNoCopy := 170, tU32 := 40 }
theorem Tryf.muLib : Go.Conc.Locks.MuLib Tryf.prog Tryf.muLink :=
  ⟨Tryf.func12, Tryf.func13, Tryf.func20, Tryf.func21, Tryf.func30, Tryf.func32, Tryf.func33, Tryf.func35, Tryf.func31, Tryf.func36, Tryf.underlying172, Tryf.runUnderlying172, Tryf.sizeOf172, Tryf.isAgg172, Tryf.zeroValue172, Tryf.underlying174, Tryf.runUnderlying174, Tryf.sizeOf174, Tryf.isAgg174, Tryf.zeroValue174, Tryf.underlying178, Tryf.runUnderlying178, Tryf.sizeOf178, Tryf.isAgg178, Tryf.zeroValue178, Tryf.underlying190, Tryf.runUnderlying190, Tryf.sizeOf190, Tryf.isAgg190, Tryf.zeroValue190, Tryf.underlying192, Tryf.runUnderlying192, Tryf.sizeOf192, Tryf.isAgg192, Tryf.zeroValue192, Tryf.underlying194, Tryf.runUnderlying194, Tryf.sizeOf194, Tryf.isAgg194, Tryf.zeroValue194, Tryf.underlying170, Tryf.runUnderlying170, Tryf.sizeOf170, Tryf.isAgg170, Tryf.zeroValue170, Tryf.underlying21, Tryf.runUnderlying21, Tryf.sizeOf21, Tryf.isAgg21, Tryf.zeroValue21, (by kernel_rfl)⟩
end Go.Proofs
