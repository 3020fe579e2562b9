/-
  The numbers under which the dump holds the mutex's functions and types, and that it holds them.
-/
import Derived.Test.YtidicogmfpfibacFmtKit
import Derived.Conc.MuLone
import Derived.Conc.MuLib
import Derived.KernelRfl
namespace Go.Proofs
abbrev Tryf.muLink : Go.Conc.Locks.MuLink := { lock := 11, unlock := 12, ilock := 20, iunlock := 21, lockSlow := 28, unlockSlow := 31, disable := 24, enable := 26, acquire := 27, relMerge := 29, cas32 := 25, add32 := 30, tMutex := 173, tIMutex := 171, tPMutex := 179, tPIMutex := 186, tPI32 := 188, tUP := 190, tNoCopy := 169, tU32 := 47 }
theorem Tryf.muLib : Go.Conc.Locks.MuLib Tryf.prog Tryf.muLink :=
  ⟨Tryf.func11, Tryf.func12, Tryf.func20, Tryf.func21, Tryf.func24, Tryf.func26, Tryf.func27, Tryf.func29, Tryf.func25, Tryf.func30, Tryf.underlying171, Tryf.runUnderlying171, Tryf.sizeOf171, Tryf.isAgg171, Tryf.zeroValue171, Tryf.underlying173, Tryf.runUnderlying173, Tryf.sizeOf173, Tryf.isAgg173, Tryf.zeroValue173, Tryf.underlying179, Tryf.runUnderlying179, Tryf.sizeOf179, Tryf.isAgg179, Tryf.zeroValue179, Tryf.underlying186, Tryf.runUnderlying186, Tryf.sizeOf186, Tryf.isAgg186, Tryf.zeroValue186, Tryf.underlying188, Tryf.runUnderlying188, Tryf.sizeOf188, Tryf.isAgg188, Tryf.zeroValue188, Tryf.underlying190, Tryf.runUnderlying190, Tryf.sizeOf190, Tryf.isAgg190, Tryf.zeroValue190, Tryf.underlying169, Tryf.runUnderlying169, Tryf.sizeOf169, Tryf.isAgg169, Tryf.zeroValue169, Tryf.underlying21, Tryf.runUnderlying21, Tryf.sizeOf21, Tryf.isAgg21, Tryf.zeroValue21, (by kernel_rfl)⟩
end Go.Proofs
