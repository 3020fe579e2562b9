/-
  What asserting an interface value to a pointer type of this program answers: one law for each type.
-/
import Derived.Test.YtkncfhhiookgdacDoorKit
namespace Go.Proofs.YtkncfhhiookgdacDoor

theorem asz28 (w : World) : (do pure (Value.tuple #[← zeroValue 28, .bool false]) : Sem Value).run Tryd.prog w = .ok (.tuple #[.pointer none, .bool false]) w := by kernel_rfl
@[go_sem] theorem as28 (u : TypeId) (v : Value) (xT : TypeId) (w : World) : (Instr.typeAssert (.iface u v) xT 28 true).run Tryd.prog w = .ok (if u = 28 then .tuple #[v, .bool true] else .tuple #[.pointer none, .bool false]) w := by
  have e : (Instr.typeAssert (.iface u v) xT 28 true).run Tryd.prog w = (if u = 28 then (pure (Value.tuple #[v, .bool true]) : Sem Value) else (do pure (Value.tuple #[← zeroValue 28, .bool false]))).run Tryd.prog w := by kernel_rfl
  rw [e]
  split
  · rfl
  · exact asz28 w
@[go_sem] theorem asn28 (xT : TypeId) (w : World) : (Instr.typeAssert .nilIface xT 28 true).run Tryd.prog w = .ok (.tuple #[.pointer none, .bool false]) w := by kernel_rfl
@[go_sem] theorem asf28 (v : Value) (xT : TypeId) (w : World) : (Instr.typeAssert (.iface 28 v) xT 28 false).run Tryd.prog w = .ok v w := by kernel_rfl
theorem asz49 (w : World) : (do pure (Value.tuple #[← zeroValue 49, .bool false]) : Sem Value).run Tryd.prog w = .ok (.tuple #[.pointer none, .bool false]) w := by kernel_rfl
@[go_sem] theorem as49 (u : TypeId) (v : Value) (xT : TypeId) (w : World) : (Instr.typeAssert (.iface u v) xT 49 true).run Tryd.prog w = .ok (if u = 49 then .tuple #[v, .bool true] else .tuple #[.pointer none, .bool false]) w := by
  have e : (Instr.typeAssert (.iface u v) xT 49 true).run Tryd.prog w = (if u = 49 then (pure (Value.tuple #[v, .bool true]) : Sem Value) else (do pure (Value.tuple #[← zeroValue 49, .bool false]))).run Tryd.prog w := by kernel_rfl
  rw [e]
  split
  · rfl
  · exact asz49 w
@[go_sem] theorem asn49 (xT : TypeId) (w : World) : (Instr.typeAssert .nilIface xT 49 true).run Tryd.prog w = .ok (.tuple #[.pointer none, .bool false]) w := by kernel_rfl
@[go_sem] theorem asf49 (v : Value) (xT : TypeId) (w : World) : (Instr.typeAssert (.iface 49 v) xT 49 false).run Tryd.prog w = .ok v w := by kernel_rfl
theorem asz54 (w : World) : (do pure (Value.tuple #[← zeroValue 54, .bool false]) : Sem Value).run Tryd.prog w = .ok (.tuple #[.pointer none, .bool false]) w := by kernel_rfl
@[go_sem] theorem as54 (u : TypeId) (v : Value) (xT : TypeId) (w : World) : (Instr.typeAssert (.iface u v) xT 54 true).run Tryd.prog w = .ok (if u = 54 then .tuple #[v, .bool true] else .tuple #[.pointer none, .bool false]) w := by
  have e : (Instr.typeAssert (.iface u v) xT 54 true).run Tryd.prog w = (if u = 54 then (pure (Value.tuple #[v, .bool true]) : Sem Value) else (do pure (Value.tuple #[← zeroValue 54, .bool false]))).run Tryd.prog w := by kernel_rfl
  rw [e]
  split
  · rfl
  · exact asz54 w
@[go_sem] theorem asn54 (xT : TypeId) (w : World) : (Instr.typeAssert .nilIface xT 54 true).run Tryd.prog w = .ok (.tuple #[.pointer none, .bool false]) w := by kernel_rfl
@[go_sem] theorem asf54 (v : Value) (xT : TypeId) (w : World) : (Instr.typeAssert (.iface 54 v) xT 54 false).run Tryd.prog w = .ok v w := by kernel_rfl
theorem asz60 (w : World) : (do pure (Value.tuple #[← zeroValue 60, .bool false]) : Sem Value).run Tryd.prog w = .ok (.tuple #[.pointer none, .bool false]) w := by kernel_rfl
@[go_sem] theorem as60 (u : TypeId) (v : Value) (xT : TypeId) (w : World) : (Instr.typeAssert (.iface u v) xT 60 true).run Tryd.prog w = .ok (if u = 60 then .tuple #[v, .bool true] else .tuple #[.pointer none, .bool false]) w := by
  have e : (Instr.typeAssert (.iface u v) xT 60 true).run Tryd.prog w = (if u = 60 then (pure (Value.tuple #[v, .bool true]) : Sem Value) else (do pure (Value.tuple #[← zeroValue 60, .bool false]))).run Tryd.prog w := by kernel_rfl
  rw [e]
  split
  · rfl
  · exact asz60 w
@[go_sem] theorem asn60 (xT : TypeId) (w : World) : (Instr.typeAssert .nilIface xT 60 true).run Tryd.prog w = .ok (.tuple #[.pointer none, .bool false]) w := by kernel_rfl
@[go_sem] theorem asf60 (v : Value) (xT : TypeId) (w : World) : (Instr.typeAssert (.iface 60 v) xT 60 false).run Tryd.prog w = .ok v w := by kernel_rfl
theorem asz70 (w : World) : (do pure (Value.tuple #[← zeroValue 70, .bool false]) : Sem Value).run Tryd.prog w = .ok (.tuple #[.pointer none, .bool false]) w := by kernel_rfl
@[go_sem] theorem as70 (u : TypeId) (v : Value) (xT : TypeId) (w : World) : (Instr.typeAssert (.iface u v) xT 70 true).run Tryd.prog w = .ok (if u = 70 then .tuple #[v, .bool true] else .tuple #[.pointer none, .bool false]) w := by
  have e : (Instr.typeAssert (.iface u v) xT 70 true).run Tryd.prog w = (if u = 70 then (pure (Value.tuple #[v, .bool true]) : Sem Value) else (do pure (Value.tuple #[← zeroValue 70, .bool false]))).run Tryd.prog w := by kernel_rfl
  rw [e]
  split
  · rfl
  · exact asz70 w
@[go_sem] theorem asn70 (xT : TypeId) (w : World) : (Instr.typeAssert .nilIface xT 70 true).run Tryd.prog w = .ok (.tuple #[.pointer none, .bool false]) w := by kernel_rfl
@[go_sem] theorem asf70 (v : Value) (xT : TypeId) (w : World) : (Instr.typeAssert (.iface 70 v) xT 70 false).run Tryd.prog w = .ok v w := by kernel_rfl
theorem asz71 (w : World) : (do pure (Value.tuple #[← zeroValue 71, .bool false]) : Sem Value).run Tryd.prog w = .ok (.tuple #[.pointer none, .bool false]) w := by kernel_rfl
@[go_sem] theorem as71 (u : TypeId) (v : Value) (xT : TypeId) (w : World) : (Instr.typeAssert (.iface u v) xT 71 true).run Tryd.prog w = .ok (if u = 71 then .tuple #[v, .bool true] else .tuple #[.pointer none, .bool false]) w := by
  have e : (Instr.typeAssert (.iface u v) xT 71 true).run Tryd.prog w = (if u = 71 then (pure (Value.tuple #[v, .bool true]) : Sem Value) else (do pure (Value.tuple #[← zeroValue 71, .bool false]))).run Tryd.prog w := by kernel_rfl
  rw [e]
  split
  · rfl
  · exact asz71 w
@[go_sem] theorem asn71 (xT : TypeId) (w : World) : (Instr.typeAssert .nilIface xT 71 true).run Tryd.prog w = .ok (.tuple #[.pointer none, .bool false]) w := by kernel_rfl
@[go_sem] theorem asf71 (v : Value) (xT : TypeId) (w : World) : (Instr.typeAssert (.iface 71 v) xT 71 false).run Tryd.prog w = .ok v w := by kernel_rfl
theorem asz72 (w : World) : (do pure (Value.tuple #[← zeroValue 72, .bool false]) : Sem Value).run Tryd.prog w = .ok (.tuple #[.pointer none, .bool false]) w := by kernel_rfl
@[go_sem] theorem as72 (u : TypeId) (v : Value) (xT : TypeId) (w : World) : (Instr.typeAssert (.iface u v) xT 72 true).run Tryd.prog w = .ok (if u = 72 then .tuple #[v, .bool true] else .tuple #[.pointer none, .bool false]) w := by
  have e : (Instr.typeAssert (.iface u v) xT 72 true).run Tryd.prog w = (if u = 72 then (pure (Value.tuple #[v, .bool true]) : Sem Value) else (do pure (Value.tuple #[← zeroValue 72, .bool false]))).run Tryd.prog w := by kernel_rfl
  rw [e]
  split
  · rfl
  · exact asz72 w
@[go_sem] theorem asn72 (xT : TypeId) (w : World) : (Instr.typeAssert .nilIface xT 72 true).run Tryd.prog w = .ok (.tuple #[.pointer none, .bool false]) w := by kernel_rfl
@[go_sem] theorem asf72 (v : Value) (xT : TypeId) (w : World) : (Instr.typeAssert (.iface 72 v) xT 72 false).run Tryd.prog w = .ok v w := by kernel_rfl
theorem asz75 (w : World) : (do pure (Value.tuple #[← zeroValue 75, .bool false]) : Sem Value).run Tryd.prog w = .ok (.tuple #[.pointer none, .bool false]) w := by kernel_rfl
@[go_sem] theorem as75 (u : TypeId) (v : Value) (xT : TypeId) (w : World) : (Instr.typeAssert (.iface u v) xT 75 true).run Tryd.prog w = .ok (if u = 75 then .tuple #[v, .bool true] else .tuple #[.pointer none, .bool false]) w := by
  have e : (Instr.typeAssert (.iface u v) xT 75 true).run Tryd.prog w = (if u = 75 then (pure (Value.tuple #[v, .bool true]) : Sem Value) else (do pure (Value.tuple #[← zeroValue 75, .bool false]))).run Tryd.prog w := by kernel_rfl
  rw [e]
  split
  · rfl
  · exact asz75 w
@[go_sem] theorem asn75 (xT : TypeId) (w : World) : (Instr.typeAssert .nilIface xT 75 true).run Tryd.prog w = .ok (.tuple #[.pointer none, .bool false]) w := by kernel_rfl
@[go_sem] theorem asf75 (v : Value) (xT : TypeId) (w : World) : (Instr.typeAssert (.iface 75 v) xT 75 false).run Tryd.prog w = .ok v w := by kernel_rfl
theorem asz78 (w : World) : (do pure (Value.tuple #[← zeroValue 78, .bool false]) : Sem Value).run Tryd.prog w = .ok (.tuple #[.pointer none, .bool false]) w := by kernel_rfl
@[go_sem] theorem as78 (u : TypeId) (v : Value) (xT : TypeId) (w : World) : (Instr.typeAssert (.iface u v) xT 78 true).run Tryd.prog w = .ok (if u = 78 then .tuple #[v, .bool true] else .tuple #[.pointer none, .bool false]) w := by
  have e : (Instr.typeAssert (.iface u v) xT 78 true).run Tryd.prog w = (if u = 78 then (pure (Value.tuple #[v, .bool true]) : Sem Value) else (do pure (Value.tuple #[← zeroValue 78, .bool false]))).run Tryd.prog w := by kernel_rfl
  rw [e]
  split
  · rfl
  · exact asz78 w
@[go_sem] theorem asn78 (xT : TypeId) (w : World) : (Instr.typeAssert .nilIface xT 78 true).run Tryd.prog w = .ok (.tuple #[.pointer none, .bool false]) w := by kernel_rfl
@[go_sem] theorem asf78 (v : Value) (xT : TypeId) (w : World) : (Instr.typeAssert (.iface 78 v) xT 78 false).run Tryd.prog w = .ok v w := by kernel_rfl
theorem asz83 (w : World) : (do pure (Value.tuple #[← zeroValue 83, .bool false]) : Sem Value).run Tryd.prog w = .ok (.tuple #[.pointer none, .bool false]) w := by kernel_rfl
@[go_sem] theorem as83 (u : TypeId) (v : Value) (xT : TypeId) (w : World) : (Instr.typeAssert (.iface u v) xT 83 true).run Tryd.prog w = .ok (if u = 83 then .tuple #[v, .bool true] else .tuple #[.pointer none, .bool false]) w := by
  have e : (Instr.typeAssert (.iface u v) xT 83 true).run Tryd.prog w = (if u = 83 then (pure (Value.tuple #[v, .bool true]) : Sem Value) else (do pure (Value.tuple #[← zeroValue 83, .bool false]))).run Tryd.prog w := by kernel_rfl
  rw [e]
  split
  · rfl
  · exact asz83 w
@[go_sem] theorem asn83 (xT : TypeId) (w : World) : (Instr.typeAssert .nilIface xT 83 true).run Tryd.prog w = .ok (.tuple #[.pointer none, .bool false]) w := by kernel_rfl
@[go_sem] theorem asf83 (v : Value) (xT : TypeId) (w : World) : (Instr.typeAssert (.iface 83 v) xT 83 false).run Tryd.prog w = .ok v w := by kernel_rfl
theorem asz85 (w : World) : (do pure (Value.tuple #[← zeroValue 85, .bool false]) : Sem Value).run Tryd.prog w = .ok (.tuple #[.pointer none, .bool false]) w := by kernel_rfl
@[go_sem] theorem as85 (u : TypeId) (v : Value) (xT : TypeId) (w : World) : (Instr.typeAssert (.iface u v) xT 85 true).run Tryd.prog w = .ok (if u = 85 then .tuple #[v, .bool true] else .tuple #[.pointer none, .bool false]) w := by
  have e : (Instr.typeAssert (.iface u v) xT 85 true).run Tryd.prog w = (if u = 85 then (pure (Value.tuple #[v, .bool true]) : Sem Value) else (do pure (Value.tuple #[← zeroValue 85, .bool false]))).run Tryd.prog w := by kernel_rfl
  rw [e]
  split
  · rfl
  · exact asz85 w
@[go_sem] theorem asn85 (xT : TypeId) (w : World) : (Instr.typeAssert .nilIface xT 85 true).run Tryd.prog w = .ok (.tuple #[.pointer none, .bool false]) w := by kernel_rfl
@[go_sem] theorem asf85 (v : Value) (xT : TypeId) (w : World) : (Instr.typeAssert (.iface 85 v) xT 85 false).run Tryd.prog w = .ok v w := by kernel_rfl

end Go.Proofs.YtkncfhhiookgdacDoor
