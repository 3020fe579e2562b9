import Derived.Test.YtpehladamabedaaKit
import Derived.Test.YtpehladamabedaaDupQ
namespace Go.Proofs.Ytpehladamabedaa.fnDupCheckerResetState
open Go.ChangeShapes Go.WideShapes Go.ChangeAt Go.RowKit
set_option linter.unusedVariables false
set_option maxRecDepth 100000
set_option maxHeartbeats 2000000

/-- The law at every int and every array of 32 bytes. -/
theorem walk (a0 : Int) (cs : Array Value) (w : World) (hcs : cs.size = 32) (hv : ∀ i, i < 32 → ∃ z, cs[i]? = some (.int .u8 z)) :
    Calls Try.prog 6 #[.int .i64 a0, .agg cs] w fun e w' => e = .returned (.bool true) ∧ Below w.heap.size w w' := by
  by_cases h0 : a0 < 0
  · exact walk_neg a0 cs w h0
  by_cases h1 : 65536 < a0
  · exact walk_big a0 cs w h0 h1
  have hone : cs.all (·.oneCell') = true := by
    rw [Array.all_eq_true]
    intro i hi
    obtain ⟨z, hz⟩ := hv i (by omega)
    rw [Array.getElem?_eq_getElem hi, Option.some.injEq] at hz
    rw [hz]
    rfl
  obtain ⟨n, rfl⟩ : ∃ n : Nat, a0 = n := ⟨a0.toNat, by omega⟩
  exact walkIn n cs w (by omega) hcs hone hv

end Go.Proofs.Ytpehladamabedaa.fnDupCheckerResetState
