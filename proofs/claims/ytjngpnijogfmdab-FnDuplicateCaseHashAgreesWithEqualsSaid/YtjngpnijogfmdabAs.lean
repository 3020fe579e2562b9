/-
  What asserting an interface value to a pointer type of this program answers: one law for each type.
-/
import Derived.Test.YtjngpnijogfmdabKit
namespace Go.Proofs.Ytjngpnijogfmdab

theorem asz17 (w : World) : (do pure (Value.tuple #[← zeroValue 17, .bool false]) : Sem Value).run Try.prog w = .ok (.tuple #[.pointer none, .bool false]) w := by kernel_rfl
@[go_sem] theorem as17 (u : TypeId) (v : Value) (xT : TypeId) (w : World) : (Instr.typeAssert (.iface u v) xT 17 true).run Try.prog w = .ok (if u = 17 then .tuple #[v, .bool true] else .tuple #[.pointer none, .bool false]) w := by
  have e : (Instr.typeAssert (.iface u v) xT 17 true).run Try.prog w = (if u = 17 then (pure (Value.tuple #[v, .bool true]) : Sem Value) else (do pure (Value.tuple #[← zeroValue 17, .bool false]))).run Try.prog w := by kernel_rfl
  rw [e]
  split
  · rfl
  · exact asz17 w
@[go_sem] theorem asn17 (xT : TypeId) (w : World) : (Instr.typeAssert .nilIface xT 17 true).run Try.prog w = .ok (.tuple #[.pointer none, .bool false]) w := by kernel_rfl
@[go_sem] theorem asf17 (v : Value) (xT : TypeId) (w : World) : (Instr.typeAssert (.iface 17 v) xT 17 false).run Try.prog w = .ok v w := by kernel_rfl
theorem asz46 (w : World) : (do pure (Value.tuple #[← zeroValue 46, .bool false]) : Sem Value).run Try.prog w = .ok (.tuple #[.pointer none, .bool false]) w := by kernel_rfl
@[go_sem] theorem as46 (u : TypeId) (v : Value) (xT : TypeId) (w : World) : (Instr.typeAssert (.iface u v) xT 46 true).run Try.prog w = .ok (if u = 46 then .tuple #[v, .bool true] else .tuple #[.pointer none, .bool false]) w := by
  have e : (Instr.typeAssert (.iface u v) xT 46 true).run Try.prog w = (if u = 46 then (pure (Value.tuple #[v, .bool true]) : Sem Value) else (do pure (Value.tuple #[← zeroValue 46, .bool false]))).run Try.prog w := by kernel_rfl
  rw [e]
  split
  · rfl
  · exact asz46 w
@[go_sem] theorem asn46 (xT : TypeId) (w : World) : (Instr.typeAssert .nilIface xT 46 true).run Try.prog w = .ok (.tuple #[.pointer none, .bool false]) w := by kernel_rfl
@[go_sem] theorem asf46 (v : Value) (xT : TypeId) (w : World) : (Instr.typeAssert (.iface 46 v) xT 46 false).run Try.prog w = .ok v w := by kernel_rfl
theorem asz49 (w : World) : (do pure (Value.tuple #[← zeroValue 49, .bool false]) : Sem Value).run Try.prog w = .ok (.tuple #[.pointer none, .bool false]) w := by kernel_rfl
@[go_sem] theorem as49 (u : TypeId) (v : Value) (xT : TypeId) (w : World) : (Instr.typeAssert (.iface u v) xT 49 true).run Try.prog w = .ok (if u = 49 then .tuple #[v, .bool true] else .tuple #[.pointer none, .bool false]) w := by
  have e : (Instr.typeAssert (.iface u v) xT 49 true).run Try.prog w = (if u = 49 then (pure (Value.tuple #[v, .bool true]) : Sem Value) else (do pure (Value.tuple #[← zeroValue 49, .bool false]))).run Try.prog w := by kernel_rfl
  rw [e]
  split
  · rfl
  · exact asz49 w
@[go_sem] theorem asn49 (xT : TypeId) (w : World) : (Instr.typeAssert .nilIface xT 49 true).run Try.prog w = .ok (.tuple #[.pointer none, .bool false]) w := by kernel_rfl
@[go_sem] theorem asf49 (v : Value) (xT : TypeId) (w : World) : (Instr.typeAssert (.iface 49 v) xT 49 false).run Try.prog w = .ok v w := by kernel_rfl
theorem asz51 (w : World) : (do pure (Value.tuple #[← zeroValue 51, .bool false]) : Sem Value).run Try.prog w = .ok (.tuple #[.pointer none, .bool false]) w := by kernel_rfl
@[go_sem] theorem as51 (u : TypeId) (v : Value) (xT : TypeId) (w : World) : (Instr.typeAssert (.iface u v) xT 51 true).run Try.prog w = .ok (if u = 51 then .tuple #[v, .bool true] else .tuple #[.pointer none, .bool false]) w := by
  have e : (Instr.typeAssert (.iface u v) xT 51 true).run Try.prog w = (if u = 51 then (pure (Value.tuple #[v, .bool true]) : Sem Value) else (do pure (Value.tuple #[← zeroValue 51, .bool false]))).run Try.prog w := by kernel_rfl
  rw [e]
  split
  · rfl
  · exact asz51 w
@[go_sem] theorem asn51 (xT : TypeId) (w : World) : (Instr.typeAssert .nilIface xT 51 true).run Try.prog w = .ok (.tuple #[.pointer none, .bool false]) w := by kernel_rfl
@[go_sem] theorem asf51 (v : Value) (xT : TypeId) (w : World) : (Instr.typeAssert (.iface 51 v) xT 51 false).run Try.prog w = .ok v w := by kernel_rfl
theorem asz54 (w : World) : (do pure (Value.tuple #[← zeroValue 54, .bool false]) : Sem Value).run Try.prog w = .ok (.tuple #[.pointer none, .bool false]) w := by kernel_rfl
@[go_sem] theorem as54 (u : TypeId) (v : Value) (xT : TypeId) (w : World) : (Instr.typeAssert (.iface u v) xT 54 true).run Try.prog w = .ok (if u = 54 then .tuple #[v, .bool true] else .tuple #[.pointer none, .bool false]) w := by
  have e : (Instr.typeAssert (.iface u v) xT 54 true).run Try.prog w = (if u = 54 then (pure (Value.tuple #[v, .bool true]) : Sem Value) else (do pure (Value.tuple #[← zeroValue 54, .bool false]))).run Try.prog w := by kernel_rfl
  rw [e]
  split
  · rfl
  · exact asz54 w
@[go_sem] theorem asn54 (xT : TypeId) (w : World) : (Instr.typeAssert .nilIface xT 54 true).run Try.prog w = .ok (.tuple #[.pointer none, .bool false]) w := by kernel_rfl
@[go_sem] theorem asf54 (v : Value) (xT : TypeId) (w : World) : (Instr.typeAssert (.iface 54 v) xT 54 false).run Try.prog w = .ok v w := by kernel_rfl
theorem asz57 (w : World) : (do pure (Value.tuple #[← zeroValue 57, .bool false]) : Sem Value).run Try.prog w = .ok (.tuple #[.pointer none, .bool false]) w := by kernel_rfl
@[go_sem] theorem as57 (u : TypeId) (v : Value) (xT : TypeId) (w : World) : (Instr.typeAssert (.iface u v) xT 57 true).run Try.prog w = .ok (if u = 57 then .tuple #[v, .bool true] else .tuple #[.pointer none, .bool false]) w := by
  have e : (Instr.typeAssert (.iface u v) xT 57 true).run Try.prog w = (if u = 57 then (pure (Value.tuple #[v, .bool true]) : Sem Value) else (do pure (Value.tuple #[← zeroValue 57, .bool false]))).run Try.prog w := by kernel_rfl
  rw [e]
  split
  · rfl
  · exact asz57 w
@[go_sem] theorem asn57 (xT : TypeId) (w : World) : (Instr.typeAssert .nilIface xT 57 true).run Try.prog w = .ok (.tuple #[.pointer none, .bool false]) w := by kernel_rfl
@[go_sem] theorem asf57 (v : Value) (xT : TypeId) (w : World) : (Instr.typeAssert (.iface 57 v) xT 57 false).run Try.prog w = .ok v w := by kernel_rfl
theorem asz60 (w : World) : (do pure (Value.tuple #[← zeroValue 60, .bool false]) : Sem Value).run Try.prog w = .ok (.tuple #[.pointer none, .bool false]) w := by kernel_rfl
@[go_sem] theorem as60 (u : TypeId) (v : Value) (xT : TypeId) (w : World) : (Instr.typeAssert (.iface u v) xT 60 true).run Try.prog w = .ok (if u = 60 then .tuple #[v, .bool true] else .tuple #[.pointer none, .bool false]) w := by
  have e : (Instr.typeAssert (.iface u v) xT 60 true).run Try.prog w = (if u = 60 then (pure (Value.tuple #[v, .bool true]) : Sem Value) else (do pure (Value.tuple #[← zeroValue 60, .bool false]))).run Try.prog w := by kernel_rfl
  rw [e]
  split
  · rfl
  · exact asz60 w
@[go_sem] theorem asn60 (xT : TypeId) (w : World) : (Instr.typeAssert .nilIface xT 60 true).run Try.prog w = .ok (.tuple #[.pointer none, .bool false]) w := by kernel_rfl
@[go_sem] theorem asf60 (v : Value) (xT : TypeId) (w : World) : (Instr.typeAssert (.iface 60 v) xT 60 false).run Try.prog w = .ok v w := by kernel_rfl
theorem asz69 (w : World) : (do pure (Value.tuple #[← zeroValue 69, .bool false]) : Sem Value).run Try.prog w = .ok (.tuple #[.pointer none, .bool false]) w := by kernel_rfl
@[go_sem] theorem as69 (u : TypeId) (v : Value) (xT : TypeId) (w : World) : (Instr.typeAssert (.iface u v) xT 69 true).run Try.prog w = .ok (if u = 69 then .tuple #[v, .bool true] else .tuple #[.pointer none, .bool false]) w := by
  have e : (Instr.typeAssert (.iface u v) xT 69 true).run Try.prog w = (if u = 69 then (pure (Value.tuple #[v, .bool true]) : Sem Value) else (do pure (Value.tuple #[← zeroValue 69, .bool false]))).run Try.prog w := by kernel_rfl
  rw [e]
  split
  · rfl
  · exact asz69 w
@[go_sem] theorem asn69 (xT : TypeId) (w : World) : (Instr.typeAssert .nilIface xT 69 true).run Try.prog w = .ok (.tuple #[.pointer none, .bool false]) w := by kernel_rfl
@[go_sem] theorem asf69 (v : Value) (xT : TypeId) (w : World) : (Instr.typeAssert (.iface 69 v) xT 69 false).run Try.prog w = .ok v w := by kernel_rfl
theorem asz76 (w : World) : (do pure (Value.tuple #[← zeroValue 76, .bool false]) : Sem Value).run Try.prog w = .ok (.tuple #[.pointer none, .bool false]) w := by kernel_rfl
@[go_sem] theorem as76 (u : TypeId) (v : Value) (xT : TypeId) (w : World) : (Instr.typeAssert (.iface u v) xT 76 true).run Try.prog w = .ok (if u = 76 then .tuple #[v, .bool true] else .tuple #[.pointer none, .bool false]) w := by
  have e : (Instr.typeAssert (.iface u v) xT 76 true).run Try.prog w = (if u = 76 then (pure (Value.tuple #[v, .bool true]) : Sem Value) else (do pure (Value.tuple #[← zeroValue 76, .bool false]))).run Try.prog w := by kernel_rfl
  rw [e]
  split
  · rfl
  · exact asz76 w
@[go_sem] theorem asn76 (xT : TypeId) (w : World) : (Instr.typeAssert .nilIface xT 76 true).run Try.prog w = .ok (.tuple #[.pointer none, .bool false]) w := by kernel_rfl
@[go_sem] theorem asf76 (v : Value) (xT : TypeId) (w : World) : (Instr.typeAssert (.iface 76 v) xT 76 false).run Try.prog w = .ok v w := by kernel_rfl
theorem asz79 (w : World) : (do pure (Value.tuple #[← zeroValue 79, .bool false]) : Sem Value).run Try.prog w = .ok (.tuple #[.pointer none, .bool false]) w := by kernel_rfl
@[go_sem] theorem as79 (u : TypeId) (v : Value) (xT : TypeId) (w : World) : (Instr.typeAssert (.iface u v) xT 79 true).run Try.prog w = .ok (if u = 79 then .tuple #[v, .bool true] else .tuple #[.pointer none, .bool false]) w := by
  have e : (Instr.typeAssert (.iface u v) xT 79 true).run Try.prog w = (if u = 79 then (pure (Value.tuple #[v, .bool true]) : Sem Value) else (do pure (Value.tuple #[← zeroValue 79, .bool false]))).run Try.prog w := by kernel_rfl
  rw [e]
  split
  · rfl
  · exact asz79 w
@[go_sem] theorem asn79 (xT : TypeId) (w : World) : (Instr.typeAssert .nilIface xT 79 true).run Try.prog w = .ok (.tuple #[.pointer none, .bool false]) w := by kernel_rfl
@[go_sem] theorem asf79 (v : Value) (xT : TypeId) (w : World) : (Instr.typeAssert (.iface 79 v) xT 79 false).run Try.prog w = .ok v w := by kernel_rfl
theorem asz84 (w : World) : (do pure (Value.tuple #[← zeroValue 84, .bool false]) : Sem Value).run Try.prog w = .ok (.tuple #[.pointer none, .bool false]) w := by kernel_rfl
@[go_sem] theorem as84 (u : TypeId) (v : Value) (xT : TypeId) (w : World) : (Instr.typeAssert (.iface u v) xT 84 true).run Try.prog w = .ok (if u = 84 then .tuple #[v, .bool true] else .tuple #[.pointer none, .bool false]) w := by
  have e : (Instr.typeAssert (.iface u v) xT 84 true).run Try.prog w = (if u = 84 then (pure (Value.tuple #[v, .bool true]) : Sem Value) else (do pure (Value.tuple #[← zeroValue 84, .bool false]))).run Try.prog w := by kernel_rfl
  rw [e]
  split
  · rfl
  · exact asz84 w
@[go_sem] theorem asn84 (xT : TypeId) (w : World) : (Instr.typeAssert .nilIface xT 84 true).run Try.prog w = .ok (.tuple #[.pointer none, .bool false]) w := by kernel_rfl
@[go_sem] theorem asf84 (v : Value) (xT : TypeId) (w : World) : (Instr.typeAssert (.iface 84 v) xT 84 false).run Try.prog w = .ok v w := by kernel_rfl

end Go.Proofs.Ytjngpnijogfmdab
