import Derived.Test.YtgefhkjidldjlacKit
import Derived.Test.YtgefhkjidldjlacAs
namespace Go.Proofs.Ytgefhkjidldjlac.fnIsUnsightlyPrimitiveCaseTable
open Go.ChangeShapes Go.WideShapes Go.ChangeAt Go.RowKit
set_option linter.unusedVariables false
set_option maxRecDepth 100000
set_option maxHeartbeats 2000000

theorem walk (a0 : Int) (w : World) (w0 : (Lit.int .u8 a0).wf = true) :
    Calls Try.prog 3 #[.int .u8 a0] w fun e w' => e = .returned (.bool true) ∧ Below w.heap.size w w' := by
  have b := bounds_u8 w0
  have h0 : 0 ≤ a0 := b.1
  clear w0 b
  have hc : a0 % 16 = 0 ∨ a0 % 16 = 1 ∨ a0 % 16 = 2 ∨ a0 % 16 = 3 ∨ a0 % 16 = 4 ∨ a0 % 16 = 5 ∨ a0 % 16 = 6 ∨ a0 % 16 = 7 ∨ a0 % 16 = 8 ∨ a0 % 16 = 9 ∨ a0 % 16 = 10 ∨ a0 % 16 = 11 ∨ a0 % 16 = 12 ∨ a0 % 16 = 13 ∨ a0 % 16 = 14 ∨ a0 % 16 = 15 := by omega
  rcases hc with h | h | h | h | h | h | h | h | h | h | h | h | h | h | h | h <;> as_aux_lemma =>
    go_enter Try.func3, Try.ntmps3
    go_wp2
    go_ret
    exact ⟨rfl, by go_grown⟩

end Go.Proofs.Ytgefhkjidldjlac.fnIsUnsightlyPrimitiveCaseTable
