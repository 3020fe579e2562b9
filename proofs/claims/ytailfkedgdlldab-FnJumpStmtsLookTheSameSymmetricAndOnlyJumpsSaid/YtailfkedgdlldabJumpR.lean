import Derived.Test.YtailfkedgdlldabKit
import Derived.Test.YtailfkedgdlldabAs
import Derived.Test.YtailfkedgdlldabRow
namespace Go.Proofs.Ytailfkedgdlldab.fnJumpStmtsLookTheSameSymmetricAndOnlyJumps
open Go.ChangeShapes Go.WideShapes Go.ChangeAt Go.RowKit
set_option linter.unusedVariables false
set_option maxRecDepth 100000
set_option maxHeartbeats 2000000

theorem d154_149 (x y : Nat) (w : World) : Calls Try.prog 61 #[.iface 154 (.pointer (some ⟨x, 0, none⟩)), .iface 149 (.pointer (some ⟨y, 0, none⟩))] w fun e w' => e = .returned (.bool false) ∧ Below w.heap.size w w' := by
  go_enter Try.func61, Try.ntmps61
  go_wp2
  go_quiet (fail)
  go_wp2
  go_ret
  exact ⟨rfl, below_drewN (by go_grown) _⟩
theorem d154_152 (x y : Nat) (w : World) : Calls Try.prog 61 #[.iface 154 (.pointer (some ⟨x, 0, none⟩)), .iface 152 (.pointer (some ⟨y, 0, none⟩))] w fun e w' => e = .returned (.bool false) ∧ Below w.heap.size w w' := by
  go_enter Try.func61, Try.ntmps61
  go_wp2
  go_quiet (fail)
  go_wp2
  go_ret
  exact ⟨rfl, below_drewN (by go_grown) _⟩
theorem rr (x y : Nat) (w : World) (hx : w.cell? ⟨x, 0, none⟩ = some .nilIface) (hy : w.cell? ⟨y, 0, none⟩ = some .nilIface) : Calls Try.prog 61 #[.iface 154 (.pointer (some ⟨x, 0, none⟩)), .iface 154 (.pointer (some ⟨y, 0, none⟩))] w fun e w' => e = .returned (.bool true) ∧ Below w.heap.size w w' := by
  go_enter Try.func61, Try.ntmps61
  go_wp2
  go_quiet (fail)
  go_wp2
  go_ret
  exact ⟨rfl, below_drewN (by go_grown) _⟩

end Go.Proofs.Ytailfkedgdlldab.fnJumpStmtsLookTheSameSymmetricAndOnlyJumps
