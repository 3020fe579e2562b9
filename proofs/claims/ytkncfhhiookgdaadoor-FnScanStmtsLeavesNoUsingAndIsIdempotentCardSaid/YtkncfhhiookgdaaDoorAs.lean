/-
  What asserting an interface value to a pointer type of this program answers: one law for each type.
-/
import Derived.Test.YtkncfhhiookgdaaDoorKit
namespace Go.Proofs.YtkncfhhiookgdaaDoor

theorem asz44 (w : World) : (do pure (Value.tuple #[← zeroValue 44, .bool false]) : Sem Value).run Tryd.prog w = .ok (.tuple #[.pointer none, .bool false]) w := by kernel_rfl
@[go_sem] theorem as44 (u : TypeId) (v : Value) (xT : TypeId) (w : World) : (Instr.typeAssert (.iface u v) xT 44 true).run Tryd.prog w = .ok (if u = 44 then .tuple #[v, .bool true] else .tuple #[.pointer none, .bool false]) w := by
  have e : (Instr.typeAssert (.iface u v) xT 44 true).run Tryd.prog w = (if u = 44 then (pure (Value.tuple #[v, .bool true]) : Sem Value) else (do pure (Value.tuple #[← zeroValue 44, .bool false]))).run Tryd.prog w := by kernel_rfl
  rw [e]
  split
  · rfl
  · exact asz44 w
@[go_sem] theorem asn44 (xT : TypeId) (w : World) : (Instr.typeAssert .nilIface xT 44 true).run Tryd.prog w = .ok (.tuple #[.pointer none, .bool false]) w := by kernel_rfl
@[go_sem] theorem asf44 (v : Value) (xT : TypeId) (w : World) : (Instr.typeAssert (.iface 44 v) xT 44 false).run Tryd.prog w = .ok v w := by kernel_rfl

end Go.Proofs.YtkncfhhiookgdaaDoor
