/-
  What asserting an interface value to a pointer type of this program answers: one law for each type.
-/
import Derived.Test.YtjngpnijogfmdadKit
namespace Go.Proofs.Ytjngpnijogfmdad

theorem asz39 (w : World) : (do pure (Value.tuple #[← zeroValue 39, .bool false]) : Sem Value).run Try.prog w = .ok (.tuple #[.pointer none, .bool false]) w := by kernel_rfl
@[go_sem] theorem as39 (u : TypeId) (v : Value) (xT : TypeId) (w : World) : (Instr.typeAssert (.iface u v) xT 39 true).run Try.prog w = .ok (if u = 39 then .tuple #[v, .bool true] else .tuple #[.pointer none, .bool false]) w := by
  have e : (Instr.typeAssert (.iface u v) xT 39 true).run Try.prog w = (if u = 39 then (pure (Value.tuple #[v, .bool true]) : Sem Value) else (do pure (Value.tuple #[← zeroValue 39, .bool false]))).run Try.prog w := by kernel_rfl
  rw [e]
  split
  · rfl
  · exact asz39 w
@[go_sem] theorem asn39 (xT : TypeId) (w : World) : (Instr.typeAssert .nilIface xT 39 true).run Try.prog w = .ok (.tuple #[.pointer none, .bool false]) w := by kernel_rfl
@[go_sem] theorem asf39 (v : Value) (xT : TypeId) (w : World) : (Instr.typeAssert (.iface 39 v) xT 39 false).run Try.prog w = .ok v w := by kernel_rfl
theorem asz42 (w : World) : (do pure (Value.tuple #[← zeroValue 42, .bool false]) : Sem Value).run Try.prog w = .ok (.tuple #[.pointer none, .bool false]) w := by kernel_rfl
@[go_sem] theorem as42 (u : TypeId) (v : Value) (xT : TypeId) (w : World) : (Instr.typeAssert (.iface u v) xT 42 true).run Try.prog w = .ok (if u = 42 then .tuple #[v, .bool true] else .tuple #[.pointer none, .bool false]) w := by
  have e : (Instr.typeAssert (.iface u v) xT 42 true).run Try.prog w = (if u = 42 then (pure (Value.tuple #[v, .bool true]) : Sem Value) else (do pure (Value.tuple #[← zeroValue 42, .bool false]))).run Try.prog w := by kernel_rfl
  rw [e]
  split
  · rfl
  · exact asz42 w
@[go_sem] theorem asn42 (xT : TypeId) (w : World) : (Instr.typeAssert .nilIface xT 42 true).run Try.prog w = .ok (.tuple #[.pointer none, .bool false]) w := by kernel_rfl
@[go_sem] theorem asf42 (v : Value) (xT : TypeId) (w : World) : (Instr.typeAssert (.iface 42 v) xT 42 false).run Try.prog w = .ok v w := by kernel_rfl
theorem asz45 (w : World) : (do pure (Value.tuple #[← zeroValue 45, .bool false]) : Sem Value).run Try.prog w = .ok (.tuple #[.pointer none, .bool false]) w := by kernel_rfl
@[go_sem] theorem as45 (u : TypeId) (v : Value) (xT : TypeId) (w : World) : (Instr.typeAssert (.iface u v) xT 45 true).run Try.prog w = .ok (if u = 45 then .tuple #[v, .bool true] else .tuple #[.pointer none, .bool false]) w := by
  have e : (Instr.typeAssert (.iface u v) xT 45 true).run Try.prog w = (if u = 45 then (pure (Value.tuple #[v, .bool true]) : Sem Value) else (do pure (Value.tuple #[← zeroValue 45, .bool false]))).run Try.prog w := by kernel_rfl
  rw [e]
  split
  · rfl
  · exact asz45 w
@[go_sem] theorem asn45 (xT : TypeId) (w : World) : (Instr.typeAssert .nilIface xT 45 true).run Try.prog w = .ok (.tuple #[.pointer none, .bool false]) w := by kernel_rfl
@[go_sem] theorem asf45 (v : Value) (xT : TypeId) (w : World) : (Instr.typeAssert (.iface 45 v) xT 45 false).run Try.prog w = .ok v w := by kernel_rfl
theorem asz56 (w : World) : (do pure (Value.tuple #[← zeroValue 56, .bool false]) : Sem Value).run Try.prog w = .ok (.tuple #[.pointer none, .bool false]) w := by kernel_rfl
@[go_sem] theorem as56 (u : TypeId) (v : Value) (xT : TypeId) (w : World) : (Instr.typeAssert (.iface u v) xT 56 true).run Try.prog w = .ok (if u = 56 then .tuple #[v, .bool true] else .tuple #[.pointer none, .bool false]) w := by
  have e : (Instr.typeAssert (.iface u v) xT 56 true).run Try.prog w = (if u = 56 then (pure (Value.tuple #[v, .bool true]) : Sem Value) else (do pure (Value.tuple #[← zeroValue 56, .bool false]))).run Try.prog w := by kernel_rfl
  rw [e]
  split
  · rfl
  · exact asz56 w
@[go_sem] theorem asn56 (xT : TypeId) (w : World) : (Instr.typeAssert .nilIface xT 56 true).run Try.prog w = .ok (.tuple #[.pointer none, .bool false]) w := by kernel_rfl
@[go_sem] theorem asf56 (v : Value) (xT : TypeId) (w : World) : (Instr.typeAssert (.iface 56 v) xT 56 false).run Try.prog w = .ok v w := by kernel_rfl
theorem asz59 (w : World) : (do pure (Value.tuple #[← zeroValue 59, .bool false]) : Sem Value).run Try.prog w = .ok (.tuple #[.pointer none, .bool false]) w := by kernel_rfl
@[go_sem] theorem as59 (u : TypeId) (v : Value) (xT : TypeId) (w : World) : (Instr.typeAssert (.iface u v) xT 59 true).run Try.prog w = .ok (if u = 59 then .tuple #[v, .bool true] else .tuple #[.pointer none, .bool false]) w := by
  have e : (Instr.typeAssert (.iface u v) xT 59 true).run Try.prog w = (if u = 59 then (pure (Value.tuple #[v, .bool true]) : Sem Value) else (do pure (Value.tuple #[← zeroValue 59, .bool false]))).run Try.prog w := by kernel_rfl
  rw [e]
  split
  · rfl
  · exact asz59 w
@[go_sem] theorem asn59 (xT : TypeId) (w : World) : (Instr.typeAssert .nilIface xT 59 true).run Try.prog w = .ok (.tuple #[.pointer none, .bool false]) w := by kernel_rfl
@[go_sem] theorem asf59 (v : Value) (xT : TypeId) (w : World) : (Instr.typeAssert (.iface 59 v) xT 59 false).run Try.prog w = .ok v w := by kernel_rfl
theorem asz62 (w : World) : (do pure (Value.tuple #[← zeroValue 62, .bool false]) : Sem Value).run Try.prog w = .ok (.tuple #[.pointer none, .bool false]) w := by kernel_rfl
@[go_sem] theorem as62 (u : TypeId) (v : Value) (xT : TypeId) (w : World) : (Instr.typeAssert (.iface u v) xT 62 true).run Try.prog w = .ok (if u = 62 then .tuple #[v, .bool true] else .tuple #[.pointer none, .bool false]) w := by
  have e : (Instr.typeAssert (.iface u v) xT 62 true).run Try.prog w = (if u = 62 then (pure (Value.tuple #[v, .bool true]) : Sem Value) else (do pure (Value.tuple #[← zeroValue 62, .bool false]))).run Try.prog w := by kernel_rfl
  rw [e]
  split
  · rfl
  · exact asz62 w
@[go_sem] theorem asn62 (xT : TypeId) (w : World) : (Instr.typeAssert .nilIface xT 62 true).run Try.prog w = .ok (.tuple #[.pointer none, .bool false]) w := by kernel_rfl
@[go_sem] theorem asf62 (v : Value) (xT : TypeId) (w : World) : (Instr.typeAssert (.iface 62 v) xT 62 false).run Try.prog w = .ok v w := by kernel_rfl
theorem asz90 (w : World) : (do pure (Value.tuple #[← zeroValue 90, .bool false]) : Sem Value).run Try.prog w = .ok (.tuple #[.pointer none, .bool false]) w := by kernel_rfl
@[go_sem] theorem as90 (u : TypeId) (v : Value) (xT : TypeId) (w : World) : (Instr.typeAssert (.iface u v) xT 90 true).run Try.prog w = .ok (if u = 90 then .tuple #[v, .bool true] else .tuple #[.pointer none, .bool false]) w := by
  have e : (Instr.typeAssert (.iface u v) xT 90 true).run Try.prog w = (if u = 90 then (pure (Value.tuple #[v, .bool true]) : Sem Value) else (do pure (Value.tuple #[← zeroValue 90, .bool false]))).run Try.prog w := by kernel_rfl
  rw [e]
  split
  · rfl
  · exact asz90 w
@[go_sem] theorem asn90 (xT : TypeId) (w : World) : (Instr.typeAssert .nilIface xT 90 true).run Try.prog w = .ok (.tuple #[.pointer none, .bool false]) w := by kernel_rfl
@[go_sem] theorem asf90 (v : Value) (xT : TypeId) (w : World) : (Instr.typeAssert (.iface 90 v) xT 90 false).run Try.prog w = .ok v w := by kernel_rfl
theorem asz91 (w : World) : (do pure (Value.tuple #[← zeroValue 91, .bool false]) : Sem Value).run Try.prog w = .ok (.tuple #[.pointer none, .bool false]) w := by kernel_rfl
@[go_sem] theorem as91 (u : TypeId) (v : Value) (xT : TypeId) (w : World) : (Instr.typeAssert (.iface u v) xT 91 true).run Try.prog w = .ok (if u = 91 then .tuple #[v, .bool true] else .tuple #[.pointer none, .bool false]) w := by
  have e : (Instr.typeAssert (.iface u v) xT 91 true).run Try.prog w = (if u = 91 then (pure (Value.tuple #[v, .bool true]) : Sem Value) else (do pure (Value.tuple #[← zeroValue 91, .bool false]))).run Try.prog w := by kernel_rfl
  rw [e]
  split
  · rfl
  · exact asz91 w
@[go_sem] theorem asn91 (xT : TypeId) (w : World) : (Instr.typeAssert .nilIface xT 91 true).run Try.prog w = .ok (.tuple #[.pointer none, .bool false]) w := by kernel_rfl
@[go_sem] theorem asf91 (v : Value) (xT : TypeId) (w : World) : (Instr.typeAssert (.iface 91 v) xT 91 false).run Try.prog w = .ok v w := by kernel_rfl
theorem asz92 (w : World) : (do pure (Value.tuple #[← zeroValue 92, .bool false]) : Sem Value).run Try.prog w = .ok (.tuple #[.pointer none, .bool false]) w := by kernel_rfl
@[go_sem] theorem as92 (u : TypeId) (v : Value) (xT : TypeId) (w : World) : (Instr.typeAssert (.iface u v) xT 92 true).run Try.prog w = .ok (if u = 92 then .tuple #[v, .bool true] else .tuple #[.pointer none, .bool false]) w := by
  have e : (Instr.typeAssert (.iface u v) xT 92 true).run Try.prog w = (if u = 92 then (pure (Value.tuple #[v, .bool true]) : Sem Value) else (do pure (Value.tuple #[← zeroValue 92, .bool false]))).run Try.prog w := by kernel_rfl
  rw [e]
  split
  · rfl
  · exact asz92 w
@[go_sem] theorem asn92 (xT : TypeId) (w : World) : (Instr.typeAssert .nilIface xT 92 true).run Try.prog w = .ok (.tuple #[.pointer none, .bool false]) w := by kernel_rfl
@[go_sem] theorem asf92 (v : Value) (xT : TypeId) (w : World) : (Instr.typeAssert (.iface 92 v) xT 92 false).run Try.prog w = .ok v w := by kernel_rfl
theorem asz93 (w : World) : (do pure (Value.tuple #[← zeroValue 93, .bool false]) : Sem Value).run Try.prog w = .ok (.tuple #[.pointer none, .bool false]) w := by kernel_rfl
@[go_sem] theorem as93 (u : TypeId) (v : Value) (xT : TypeId) (w : World) : (Instr.typeAssert (.iface u v) xT 93 true).run Try.prog w = .ok (if u = 93 then .tuple #[v, .bool true] else .tuple #[.pointer none, .bool false]) w := by
  have e : (Instr.typeAssert (.iface u v) xT 93 true).run Try.prog w = (if u = 93 then (pure (Value.tuple #[v, .bool true]) : Sem Value) else (do pure (Value.tuple #[← zeroValue 93, .bool false]))).run Try.prog w := by kernel_rfl
  rw [e]
  split
  · rfl
  · exact asz93 w
@[go_sem] theorem asn93 (xT : TypeId) (w : World) : (Instr.typeAssert .nilIface xT 93 true).run Try.prog w = .ok (.tuple #[.pointer none, .bool false]) w := by kernel_rfl
@[go_sem] theorem asf93 (v : Value) (xT : TypeId) (w : World) : (Instr.typeAssert (.iface 93 v) xT 93 false).run Try.prog w = .ok v w := by kernel_rfl
theorem asz94 (w : World) : (do pure (Value.tuple #[← zeroValue 94, .bool false]) : Sem Value).run Try.prog w = .ok (.tuple #[.pointer none, .bool false]) w := by kernel_rfl
@[go_sem] theorem as94 (u : TypeId) (v : Value) (xT : TypeId) (w : World) : (Instr.typeAssert (.iface u v) xT 94 true).run Try.prog w = .ok (if u = 94 then .tuple #[v, .bool true] else .tuple #[.pointer none, .bool false]) w := by
  have e : (Instr.typeAssert (.iface u v) xT 94 true).run Try.prog w = (if u = 94 then (pure (Value.tuple #[v, .bool true]) : Sem Value) else (do pure (Value.tuple #[← zeroValue 94, .bool false]))).run Try.prog w := by kernel_rfl
  rw [e]
  split
  · rfl
  · exact asz94 w
@[go_sem] theorem asn94 (xT : TypeId) (w : World) : (Instr.typeAssert .nilIface xT 94 true).run Try.prog w = .ok (.tuple #[.pointer none, .bool false]) w := by kernel_rfl
@[go_sem] theorem asf94 (v : Value) (xT : TypeId) (w : World) : (Instr.typeAssert (.iface 94 v) xT 94 false).run Try.prog w = .ok v w := by kernel_rfl
theorem asz95 (w : World) : (do pure (Value.tuple #[← zeroValue 95, .bool false]) : Sem Value).run Try.prog w = .ok (.tuple #[.pointer none, .bool false]) w := by kernel_rfl
@[go_sem] theorem as95 (u : TypeId) (v : Value) (xT : TypeId) (w : World) : (Instr.typeAssert (.iface u v) xT 95 true).run Try.prog w = .ok (if u = 95 then .tuple #[v, .bool true] else .tuple #[.pointer none, .bool false]) w := by
  have e : (Instr.typeAssert (.iface u v) xT 95 true).run Try.prog w = (if u = 95 then (pure (Value.tuple #[v, .bool true]) : Sem Value) else (do pure (Value.tuple #[← zeroValue 95, .bool false]))).run Try.prog w := by kernel_rfl
  rw [e]
  split
  · rfl
  · exact asz95 w
@[go_sem] theorem asn95 (xT : TypeId) (w : World) : (Instr.typeAssert .nilIface xT 95 true).run Try.prog w = .ok (.tuple #[.pointer none, .bool false]) w := by kernel_rfl
@[go_sem] theorem asf95 (v : Value) (xT : TypeId) (w : World) : (Instr.typeAssert (.iface 95 v) xT 95 false).run Try.prog w = .ok v w := by kernel_rfl
theorem asz96 (w : World) : (do pure (Value.tuple #[← zeroValue 96, .bool false]) : Sem Value).run Try.prog w = .ok (.tuple #[.pointer none, .bool false]) w := by kernel_rfl
@[go_sem] theorem as96 (u : TypeId) (v : Value) (xT : TypeId) (w : World) : (Instr.typeAssert (.iface u v) xT 96 true).run Try.prog w = .ok (if u = 96 then .tuple #[v, .bool true] else .tuple #[.pointer none, .bool false]) w := by
  have e : (Instr.typeAssert (.iface u v) xT 96 true).run Try.prog w = (if u = 96 then (pure (Value.tuple #[v, .bool true]) : Sem Value) else (do pure (Value.tuple #[← zeroValue 96, .bool false]))).run Try.prog w := by kernel_rfl
  rw [e]
  split
  · rfl
  · exact asz96 w
@[go_sem] theorem asn96 (xT : TypeId) (w : World) : (Instr.typeAssert .nilIface xT 96 true).run Try.prog w = .ok (.tuple #[.pointer none, .bool false]) w := by kernel_rfl
@[go_sem] theorem asf96 (v : Value) (xT : TypeId) (w : World) : (Instr.typeAssert (.iface 96 v) xT 96 false).run Try.prog w = .ok v w := by kernel_rfl
theorem asz97 (w : World) : (do pure (Value.tuple #[← zeroValue 97, .bool false]) : Sem Value).run Try.prog w = .ok (.tuple #[.pointer none, .bool false]) w := by kernel_rfl
@[go_sem] theorem as97 (u : TypeId) (v : Value) (xT : TypeId) (w : World) : (Instr.typeAssert (.iface u v) xT 97 true).run Try.prog w = .ok (if u = 97 then .tuple #[v, .bool true] else .tuple #[.pointer none, .bool false]) w := by
  have e : (Instr.typeAssert (.iface u v) xT 97 true).run Try.prog w = (if u = 97 then (pure (Value.tuple #[v, .bool true]) : Sem Value) else (do pure (Value.tuple #[← zeroValue 97, .bool false]))).run Try.prog w := by kernel_rfl
  rw [e]
  split
  · rfl
  · exact asz97 w
@[go_sem] theorem asn97 (xT : TypeId) (w : World) : (Instr.typeAssert .nilIface xT 97 true).run Try.prog w = .ok (.tuple #[.pointer none, .bool false]) w := by kernel_rfl
@[go_sem] theorem asf97 (v : Value) (xT : TypeId) (w : World) : (Instr.typeAssert (.iface 97 v) xT 97 false).run Try.prog w = .ok v w := by kernel_rfl
theorem asz98 (w : World) : (do pure (Value.tuple #[← zeroValue 98, .bool false]) : Sem Value).run Try.prog w = .ok (.tuple #[.pointer none, .bool false]) w := by kernel_rfl
@[go_sem] theorem as98 (u : TypeId) (v : Value) (xT : TypeId) (w : World) : (Instr.typeAssert (.iface u v) xT 98 true).run Try.prog w = .ok (if u = 98 then .tuple #[v, .bool true] else .tuple #[.pointer none, .bool false]) w := by
  have e : (Instr.typeAssert (.iface u v) xT 98 true).run Try.prog w = (if u = 98 then (pure (Value.tuple #[v, .bool true]) : Sem Value) else (do pure (Value.tuple #[← zeroValue 98, .bool false]))).run Try.prog w := by kernel_rfl
  rw [e]
  split
  · rfl
  · exact asz98 w
@[go_sem] theorem asn98 (xT : TypeId) (w : World) : (Instr.typeAssert .nilIface xT 98 true).run Try.prog w = .ok (.tuple #[.pointer none, .bool false]) w := by kernel_rfl
@[go_sem] theorem asf98 (v : Value) (xT : TypeId) (w : World) : (Instr.typeAssert (.iface 98 v) xT 98 false).run Try.prog w = .ok v w := by kernel_rfl
theorem asz99 (w : World) : (do pure (Value.tuple #[← zeroValue 99, .bool false]) : Sem Value).run Try.prog w = .ok (.tuple #[.pointer none, .bool false]) w := by kernel_rfl
@[go_sem] theorem as99 (u : TypeId) (v : Value) (xT : TypeId) (w : World) : (Instr.typeAssert (.iface u v) xT 99 true).run Try.prog w = .ok (if u = 99 then .tuple #[v, .bool true] else .tuple #[.pointer none, .bool false]) w := by
  have e : (Instr.typeAssert (.iface u v) xT 99 true).run Try.prog w = (if u = 99 then (pure (Value.tuple #[v, .bool true]) : Sem Value) else (do pure (Value.tuple #[← zeroValue 99, .bool false]))).run Try.prog w := by kernel_rfl
  rw [e]
  split
  · rfl
  · exact asz99 w
@[go_sem] theorem asn99 (xT : TypeId) (w : World) : (Instr.typeAssert .nilIface xT 99 true).run Try.prog w = .ok (.tuple #[.pointer none, .bool false]) w := by kernel_rfl
@[go_sem] theorem asf99 (v : Value) (xT : TypeId) (w : World) : (Instr.typeAssert (.iface 99 v) xT 99 false).run Try.prog w = .ok v w := by kernel_rfl
theorem asz100 (w : World) : (do pure (Value.tuple #[← zeroValue 100, .bool false]) : Sem Value).run Try.prog w = .ok (.tuple #[.pointer none, .bool false]) w := by kernel_rfl
@[go_sem] theorem as100 (u : TypeId) (v : Value) (xT : TypeId) (w : World) : (Instr.typeAssert (.iface u v) xT 100 true).run Try.prog w = .ok (if u = 100 then .tuple #[v, .bool true] else .tuple #[.pointer none, .bool false]) w := by
  have e : (Instr.typeAssert (.iface u v) xT 100 true).run Try.prog w = (if u = 100 then (pure (Value.tuple #[v, .bool true]) : Sem Value) else (do pure (Value.tuple #[← zeroValue 100, .bool false]))).run Try.prog w := by kernel_rfl
  rw [e]
  split
  · rfl
  · exact asz100 w
@[go_sem] theorem asn100 (xT : TypeId) (w : World) : (Instr.typeAssert .nilIface xT 100 true).run Try.prog w = .ok (.tuple #[.pointer none, .bool false]) w := by kernel_rfl
@[go_sem] theorem asf100 (v : Value) (xT : TypeId) (w : World) : (Instr.typeAssert (.iface 100 v) xT 100 false).run Try.prog w = .ok v w := by kernel_rfl
theorem asz101 (w : World) : (do pure (Value.tuple #[← zeroValue 101, .bool false]) : Sem Value).run Try.prog w = .ok (.tuple #[.pointer none, .bool false]) w := by kernel_rfl
@[go_sem] theorem as101 (u : TypeId) (v : Value) (xT : TypeId) (w : World) : (Instr.typeAssert (.iface u v) xT 101 true).run Try.prog w = .ok (if u = 101 then .tuple #[v, .bool true] else .tuple #[.pointer none, .bool false]) w := by
  have e : (Instr.typeAssert (.iface u v) xT 101 true).run Try.prog w = (if u = 101 then (pure (Value.tuple #[v, .bool true]) : Sem Value) else (do pure (Value.tuple #[← zeroValue 101, .bool false]))).run Try.prog w := by kernel_rfl
  rw [e]
  split
  · rfl
  · exact asz101 w
@[go_sem] theorem asn101 (xT : TypeId) (w : World) : (Instr.typeAssert .nilIface xT 101 true).run Try.prog w = .ok (.tuple #[.pointer none, .bool false]) w := by kernel_rfl
@[go_sem] theorem asf101 (v : Value) (xT : TypeId) (w : World) : (Instr.typeAssert (.iface 101 v) xT 101 false).run Try.prog w = .ok v w := by kernel_rfl
theorem asz102 (w : World) : (do pure (Value.tuple #[← zeroValue 102, .bool false]) : Sem Value).run Try.prog w = .ok (.tuple #[.pointer none, .bool false]) w := by kernel_rfl
@[go_sem] theorem as102 (u : TypeId) (v : Value) (xT : TypeId) (w : World) : (Instr.typeAssert (.iface u v) xT 102 true).run Try.prog w = .ok (if u = 102 then .tuple #[v, .bool true] else .tuple #[.pointer none, .bool false]) w := by
  have e : (Instr.typeAssert (.iface u v) xT 102 true).run Try.prog w = (if u = 102 then (pure (Value.tuple #[v, .bool true]) : Sem Value) else (do pure (Value.tuple #[← zeroValue 102, .bool false]))).run Try.prog w := by kernel_rfl
  rw [e]
  split
  · rfl
  · exact asz102 w
@[go_sem] theorem asn102 (xT : TypeId) (w : World) : (Instr.typeAssert .nilIface xT 102 true).run Try.prog w = .ok (.tuple #[.pointer none, .bool false]) w := by kernel_rfl
@[go_sem] theorem asf102 (v : Value) (xT : TypeId) (w : World) : (Instr.typeAssert (.iface 102 v) xT 102 false).run Try.prog w = .ok v w := by kernel_rfl
theorem asz103 (w : World) : (do pure (Value.tuple #[← zeroValue 103, .bool false]) : Sem Value).run Try.prog w = .ok (.tuple #[.pointer none, .bool false]) w := by kernel_rfl
@[go_sem] theorem as103 (u : TypeId) (v : Value) (xT : TypeId) (w : World) : (Instr.typeAssert (.iface u v) xT 103 true).run Try.prog w = .ok (if u = 103 then .tuple #[v, .bool true] else .tuple #[.pointer none, .bool false]) w := by
  have e : (Instr.typeAssert (.iface u v) xT 103 true).run Try.prog w = (if u = 103 then (pure (Value.tuple #[v, .bool true]) : Sem Value) else (do pure (Value.tuple #[← zeroValue 103, .bool false]))).run Try.prog w := by kernel_rfl
  rw [e]
  split
  · rfl
  · exact asz103 w
@[go_sem] theorem asn103 (xT : TypeId) (w : World) : (Instr.typeAssert .nilIface xT 103 true).run Try.prog w = .ok (.tuple #[.pointer none, .bool false]) w := by kernel_rfl
@[go_sem] theorem asf103 (v : Value) (xT : TypeId) (w : World) : (Instr.typeAssert (.iface 103 v) xT 103 false).run Try.prog w = .ok v w := by kernel_rfl

end Go.Proofs.Ytjngpnijogfmdad
