import Derived.Test.YtjngpnijogfmdacKit
import Derived.Test.YtjngpnijogfmdacTiP
namespace Go.Proofs.Ytjngpnijogfmdac.fnTryToInsertOptionalChainMarksExactlyTheTail
open Go.ChangeShapes Go.WideShapes Go.ChangeAt Go.RowKit
set_option linter.unusedVariables false
set_option maxRecDepth 100000
set_option maxHeartbeats 2000000

theorem walk (a0 : Int) (a1 : Option Addr) (len1 cap1 : Nat) (z1 : List Int) (a2 : Option Addr) (len2 cap2 : Nat) (z2 : Nat → ByteArray) (a3 : Int) (a4 : Option Addr) (len4 cap4 : Nat) (z4 : List Int) (a5 : Option Addr) (len5 cap5 : Nat) (z5 : Nat → ByteArray) (w : World) (w0 : (Lit.int .u32 a0).wf = true) (w1 : IsRow .u8 w a1 len1 cap1 z1) (w2 : IsStrs w a2 len2 cap2 z2) (w3 : (Lit.int .u32 a3).wf = true) (w4 : IsRow .u8 w a4 len4 cap4 z4) (w5 : IsStrs w a5 len5 cap5 z5) :
    Calls Try.prog 3 #[.int .u32 a0, .slice a1 len1 cap1, .slice a2 len2 cap2, .int .u32 a3, .slice a4 len4 cap4, .slice a5 len5 cap5] w fun e w' => e = .returned (.bool true) ∧ Below w.heap.size w w' := by
  obtain ⟨k1, s1, m1⟩ := k8s w1
  obtain ⟨k2, s2, m2, l2⟩ := strs w2
  obtain ⟨k4, s4, m4⟩ := k8s w4
  obtain ⟨k5, s5, m5, l5⟩ := strs w5
  exact walkIn a0 a3 a1 a2 a4 a5 len1 len2 len4 len5 cap1 cap2 cap4 cap5 _ _ z2 z5 w m1 m2 m4 m5 s1 s2 s4 s5 k1 k2 k4 k5 l2 l5

end Go.Proofs.Ytjngpnijogfmdac.fnTryToInsertOptionalChainMarksExactlyTheTail
