/-
  What asserting an interface value to a pointer type of this program answers: one law for each type.
-/
import Derived.Test.YtmbbabikbmkjpaaKit
namespace Go.Proofs.Ytmbbabikbmkjpaa

theorem asz61 (w : World) : (do pure (Value.tuple #[← zeroValue 61, .bool false]) : Sem Value).run Try.prog w = .ok (.tuple #[.pointer none, .bool false]) w := by kernel_rfl
@[go_sem] theorem as61 (u : TypeId) (v : Value) (xT : TypeId) (w : World) : (Instr.typeAssert (.iface u v) xT 61 true).run Try.prog w = .ok (if u = 61 then .tuple #[v, .bool true] else .tuple #[.pointer none, .bool false]) w := by
  have e : (Instr.typeAssert (.iface u v) xT 61 true).run Try.prog w = (if u = 61 then (pure (Value.tuple #[v, .bool true]) : Sem Value) else (do pure (Value.tuple #[← zeroValue 61, .bool false]))).run Try.prog w := by kernel_rfl
  rw [e]
  split
  · rfl
  · exact asz61 w
@[go_sem] theorem asn61 (xT : TypeId) (w : World) : (Instr.typeAssert .nilIface xT 61 true).run Try.prog w = .ok (.tuple #[.pointer none, .bool false]) w := by kernel_rfl
@[go_sem] theorem asf61 (v : Value) (xT : TypeId) (w : World) : (Instr.typeAssert (.iface 61 v) xT 61 false).run Try.prog w = .ok v w := by kernel_rfl
theorem asz71 (w : World) : (do pure (Value.tuple #[← zeroValue 71, .bool false]) : Sem Value).run Try.prog w = .ok (.tuple #[.pointer none, .bool false]) w := by kernel_rfl
@[go_sem] theorem as71 (u : TypeId) (v : Value) (xT : TypeId) (w : World) : (Instr.typeAssert (.iface u v) xT 71 true).run Try.prog w = .ok (if u = 71 then .tuple #[v, .bool true] else .tuple #[.pointer none, .bool false]) w := by
  have e : (Instr.typeAssert (.iface u v) xT 71 true).run Try.prog w = (if u = 71 then (pure (Value.tuple #[v, .bool true]) : Sem Value) else (do pure (Value.tuple #[← zeroValue 71, .bool false]))).run Try.prog w := by kernel_rfl
  rw [e]
  split
  · rfl
  · exact asz71 w
@[go_sem] theorem asn71 (xT : TypeId) (w : World) : (Instr.typeAssert .nilIface xT 71 true).run Try.prog w = .ok (.tuple #[.pointer none, .bool false]) w := by kernel_rfl
@[go_sem] theorem asf71 (v : Value) (xT : TypeId) (w : World) : (Instr.typeAssert (.iface 71 v) xT 71 false).run Try.prog w = .ok v w := by kernel_rfl
theorem asz74 (w : World) : (do pure (Value.tuple #[← zeroValue 74, .bool false]) : Sem Value).run Try.prog w = .ok (.tuple #[.pointer none, .bool false]) w := by kernel_rfl
@[go_sem] theorem as74 (u : TypeId) (v : Value) (xT : TypeId) (w : World) : (Instr.typeAssert (.iface u v) xT 74 true).run Try.prog w = .ok (if u = 74 then .tuple #[v, .bool true] else .tuple #[.pointer none, .bool false]) w := by
  have e : (Instr.typeAssert (.iface u v) xT 74 true).run Try.prog w = (if u = 74 then (pure (Value.tuple #[v, .bool true]) : Sem Value) else (do pure (Value.tuple #[← zeroValue 74, .bool false]))).run Try.prog w := by kernel_rfl
  rw [e]
  split
  · rfl
  · exact asz74 w
@[go_sem] theorem asn74 (xT : TypeId) (w : World) : (Instr.typeAssert .nilIface xT 74 true).run Try.prog w = .ok (.tuple #[.pointer none, .bool false]) w := by kernel_rfl
@[go_sem] theorem asf74 (v : Value) (xT : TypeId) (w : World) : (Instr.typeAssert (.iface 74 v) xT 74 false).run Try.prog w = .ok v w := by kernel_rfl
theorem asz78 (w : World) : (do pure (Value.tuple #[← zeroValue 78, .bool false]) : Sem Value).run Try.prog w = .ok (.tuple #[.pointer none, .bool false]) w := by kernel_rfl
@[go_sem] theorem as78 (u : TypeId) (v : Value) (xT : TypeId) (w : World) : (Instr.typeAssert (.iface u v) xT 78 true).run Try.prog w = .ok (if u = 78 then .tuple #[v, .bool true] else .tuple #[.pointer none, .bool false]) w := by
  have e : (Instr.typeAssert (.iface u v) xT 78 true).run Try.prog w = (if u = 78 then (pure (Value.tuple #[v, .bool true]) : Sem Value) else (do pure (Value.tuple #[← zeroValue 78, .bool false]))).run Try.prog w := by kernel_rfl
  rw [e]
  split
  · rfl
  · exact asz78 w
@[go_sem] theorem asn78 (xT : TypeId) (w : World) : (Instr.typeAssert .nilIface xT 78 true).run Try.prog w = .ok (.tuple #[.pointer none, .bool false]) w := by kernel_rfl
@[go_sem] theorem asf78 (v : Value) (xT : TypeId) (w : World) : (Instr.typeAssert (.iface 78 v) xT 78 false).run Try.prog w = .ok v w := by kernel_rfl
theorem asz81 (w : World) : (do pure (Value.tuple #[← zeroValue 81, .bool false]) : Sem Value).run Try.prog w = .ok (.tuple #[.pointer none, .bool false]) w := by kernel_rfl
@[go_sem] theorem as81 (u : TypeId) (v : Value) (xT : TypeId) (w : World) : (Instr.typeAssert (.iface u v) xT 81 true).run Try.prog w = .ok (if u = 81 then .tuple #[v, .bool true] else .tuple #[.pointer none, .bool false]) w := by
  have e : (Instr.typeAssert (.iface u v) xT 81 true).run Try.prog w = (if u = 81 then (pure (Value.tuple #[v, .bool true]) : Sem Value) else (do pure (Value.tuple #[← zeroValue 81, .bool false]))).run Try.prog w := by kernel_rfl
  rw [e]
  split
  · rfl
  · exact asz81 w
@[go_sem] theorem asn81 (xT : TypeId) (w : World) : (Instr.typeAssert .nilIface xT 81 true).run Try.prog w = .ok (.tuple #[.pointer none, .bool false]) w := by kernel_rfl
@[go_sem] theorem asf81 (v : Value) (xT : TypeId) (w : World) : (Instr.typeAssert (.iface 81 v) xT 81 false).run Try.prog w = .ok v w := by kernel_rfl
theorem asz83 (w : World) : (do pure (Value.tuple #[← zeroValue 83, .bool false]) : Sem Value).run Try.prog w = .ok (.tuple #[.pointer none, .bool false]) w := by kernel_rfl
@[go_sem] theorem as83 (u : TypeId) (v : Value) (xT : TypeId) (w : World) : (Instr.typeAssert (.iface u v) xT 83 true).run Try.prog w = .ok (if u = 83 then .tuple #[v, .bool true] else .tuple #[.pointer none, .bool false]) w := by
  have e : (Instr.typeAssert (.iface u v) xT 83 true).run Try.prog w = (if u = 83 then (pure (Value.tuple #[v, .bool true]) : Sem Value) else (do pure (Value.tuple #[← zeroValue 83, .bool false]))).run Try.prog w := by kernel_rfl
  rw [e]
  split
  · rfl
  · exact asz83 w
@[go_sem] theorem asn83 (xT : TypeId) (w : World) : (Instr.typeAssert .nilIface xT 83 true).run Try.prog w = .ok (.tuple #[.pointer none, .bool false]) w := by kernel_rfl
@[go_sem] theorem asf83 (v : Value) (xT : TypeId) (w : World) : (Instr.typeAssert (.iface 83 v) xT 83 false).run Try.prog w = .ok v w := by kernel_rfl
theorem asz95 (w : World) : (do pure (Value.tuple #[← zeroValue 95, .bool false]) : Sem Value).run Try.prog w = .ok (.tuple #[.pointer none, .bool false]) w := by kernel_rfl
@[go_sem] theorem as95 (u : TypeId) (v : Value) (xT : TypeId) (w : World) : (Instr.typeAssert (.iface u v) xT 95 true).run Try.prog w = .ok (if u = 95 then .tuple #[v, .bool true] else .tuple #[.pointer none, .bool false]) w := by
  have e : (Instr.typeAssert (.iface u v) xT 95 true).run Try.prog w = (if u = 95 then (pure (Value.tuple #[v, .bool true]) : Sem Value) else (do pure (Value.tuple #[← zeroValue 95, .bool false]))).run Try.prog w := by kernel_rfl
  rw [e]
  split
  · rfl
  · exact asz95 w
@[go_sem] theorem asn95 (xT : TypeId) (w : World) : (Instr.typeAssert .nilIface xT 95 true).run Try.prog w = .ok (.tuple #[.pointer none, .bool false]) w := by kernel_rfl
@[go_sem] theorem asf95 (v : Value) (xT : TypeId) (w : World) : (Instr.typeAssert (.iface 95 v) xT 95 false).run Try.prog w = .ok v w := by kernel_rfl
theorem asz98 (w : World) : (do pure (Value.tuple #[← zeroValue 98, .bool false]) : Sem Value).run Try.prog w = .ok (.tuple #[.pointer none, .bool false]) w := by kernel_rfl
@[go_sem] theorem as98 (u : TypeId) (v : Value) (xT : TypeId) (w : World) : (Instr.typeAssert (.iface u v) xT 98 true).run Try.prog w = .ok (if u = 98 then .tuple #[v, .bool true] else .tuple #[.pointer none, .bool false]) w := by
  have e : (Instr.typeAssert (.iface u v) xT 98 true).run Try.prog w = (if u = 98 then (pure (Value.tuple #[v, .bool true]) : Sem Value) else (do pure (Value.tuple #[← zeroValue 98, .bool false]))).run Try.prog w := by kernel_rfl
  rw [e]
  split
  · rfl
  · exact asz98 w
@[go_sem] theorem asn98 (xT : TypeId) (w : World) : (Instr.typeAssert .nilIface xT 98 true).run Try.prog w = .ok (.tuple #[.pointer none, .bool false]) w := by kernel_rfl
@[go_sem] theorem asf98 (v : Value) (xT : TypeId) (w : World) : (Instr.typeAssert (.iface 98 v) xT 98 false).run Try.prog w = .ok v w := by kernel_rfl

end Go.Proofs.Ytmbbabikbmkjpaa
