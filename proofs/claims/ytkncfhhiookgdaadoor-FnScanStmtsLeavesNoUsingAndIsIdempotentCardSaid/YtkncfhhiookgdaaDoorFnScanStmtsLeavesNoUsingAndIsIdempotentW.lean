import Derived.Test.YtkncfhhiookgdaaDoorKit
import Derived.Test.YtkncfhhiookgdaaDoorSnG
namespace Go.Proofs.YtkncfhhiookgdaaDoor.fnScanStmtsLeavesNoUsingAndIsIdempotent
open Go.ChangeShapes Go.WideShapes Go.ChangeAt Go.RowKit
set_option linter.unusedVariables false
set_option maxRecDepth 100000
set_option maxHeartbeats 2000000

theorem walk (a0 : Option Addr) (len0 cap0 : Nat) (z0 : List Int) (a1 : Option Addr) (len1 cap1 : Nat) (z1 : List Int) (a2 a3 a4 a5 a6 : Bool) (w : World) (w0 : IsRow .u8 w a0 len0 cap0 z0) (w1 : IsRow .i32 w a1 len1 cap1 z1) (hI : IR w) :
    Calls Tryd.prog 3 #[.slice a0 len0 cap0, .slice a1 len1 cap1, .bool a2, .bool a3, .bool a4, .bool a5, .bool a6] w fun e w' => e = .returned (.bool true) ∧ Below w.heap.size w w' := by
  have hl0 : len0 ≤ 9223372036854775807 := by
    rcases w0 with ⟨_, rfl, _⟩ | ⟨_, _, h1, h2, _⟩
    · omega
    · unfold maxLen at h2; omega
  have hl1 : len1 ≤ 9223372036854775807 := by
    rcases w1 with ⟨_, rfl, _⟩ | ⟨_, _, h1, h2, _⟩
    · omega
    · unfold maxLen at h2; omega
  by_cases h0 : 4096 < len0
  · exact big a0 len0 cap0 a1 len1 cap1 a2 a3 a4 a5 a6 w hl0 hl1 (.inl h0)
  · by_cases h1 : 4096 < len1
    · exact big a0 len0 cap0 a1 len1 cap1 a2 a3 a4 a5 a6 w hl0 hl1 (.inr h1)
    · exact main a0 len0 cap0 z0 a1 len1 cap1 z1 a2 a3 a4 a5 a6 w w0 w1 (by omega) (by omega) hI
end Go.Proofs.YtkncfhhiookgdaaDoor.fnScanStmtsLeavesNoUsingAndIsIdempotent
