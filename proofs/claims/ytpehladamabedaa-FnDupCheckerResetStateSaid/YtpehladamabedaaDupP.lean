import Derived.Test.YtpehladamabedaaKit
import Derived.Test.YtpehladamabedaaDupO
namespace Go.Proofs.Ytpehladamabedaa.fnDupCheckerResetState
open Go.ChangeShapes Go.WideShapes Go.ChangeAt Go.RowKit
set_option linter.unusedVariables false
set_option maxRecDepth 100000
set_option maxHeartbeats 2000000

set_option maxHeartbeats 400000 in
theorem walk_neg (a0 : Int) (cs : Array Value) (w : World) (h0 : a0 < 0) :
    Calls Try.prog 6 #[.int .i64 a0, .agg cs] w fun e w' => e = .returned (.bool true) ∧ Below w.heap.size w w' := by
  go_enter Try.func6, Try.ntmps6
  go_wp2_with fail
  go_ret
  exact ⟨rfl, by go_grown⟩

set_option maxHeartbeats 400000 in
theorem walk_big (a0 : Int) (cs : Array Value) (w : World) (h0 : ¬ a0 < 0) (h1 : 65536 < a0) :
    Calls Try.prog 6 #[.int .i64 a0, .agg cs] w fun e w' => e = .returned (.bool true) ∧ Below w.heap.size w w' := by
  go_enter Try.func6, Try.ntmps6
  go_wp2_with fail
  go_ret
  exact ⟨rfl, by go_grown⟩

end Go.Proofs.Ytpehladamabedaa.fnDupCheckerResetState
