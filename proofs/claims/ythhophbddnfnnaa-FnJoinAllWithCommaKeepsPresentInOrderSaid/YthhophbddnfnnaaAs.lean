/-
  What asserting an interface value to a pointer type of this program answers: one law for each type.
-/
import Derived.Test.YthhophbddnfnnaaKit
namespace Go.Proofs.Ythhophbddnfnnaa

theorem asz15 (w : World) : (do pure (Value.tuple #[← zeroValue 15, .bool false]) : Sem Value).run Try.prog w = .ok (.tuple #[.pointer none, .bool false]) w := by kernel_rfl
@[go_sem] theorem as15 (u : TypeId) (v : Value) (xT : TypeId) (w : World) : (Instr.typeAssert (.iface u v) xT 15 true).run Try.prog w = .ok (if u = 15 then .tuple #[v, .bool true] else .tuple #[.pointer none, .bool false]) w := by
  have e : (Instr.typeAssert (.iface u v) xT 15 true).run Try.prog w = (if u = 15 then (pure (Value.tuple #[v, .bool true]) : Sem Value) else (do pure (Value.tuple #[← zeroValue 15, .bool false]))).run Try.prog w := by kernel_rfl
  rw [e]
  split
  · rfl
  · exact asz15 w
@[go_sem] theorem asn15 (xT : TypeId) (w : World) : (Instr.typeAssert .nilIface xT 15 true).run Try.prog w = .ok (.tuple #[.pointer none, .bool false]) w := by kernel_rfl
@[go_sem] theorem asf15 (v : Value) (xT : TypeId) (w : World) : (Instr.typeAssert (.iface 15 v) xT 15 false).run Try.prog w = .ok v w := by kernel_rfl
theorem asz16 (w : World) : (do pure (Value.tuple #[← zeroValue 16, .bool false]) : Sem Value).run Try.prog w = .ok (.tuple #[.pointer none, .bool false]) w := by kernel_rfl
@[go_sem] theorem as16 (u : TypeId) (v : Value) (xT : TypeId) (w : World) : (Instr.typeAssert (.iface u v) xT 16 true).run Try.prog w = .ok (if u = 16 then .tuple #[v, .bool true] else .tuple #[.pointer none, .bool false]) w := by
  have e : (Instr.typeAssert (.iface u v) xT 16 true).run Try.prog w = (if u = 16 then (pure (Value.tuple #[v, .bool true]) : Sem Value) else (do pure (Value.tuple #[← zeroValue 16, .bool false]))).run Try.prog w := by kernel_rfl
  rw [e]
  split
  · rfl
  · exact asz16 w
@[go_sem] theorem asn16 (xT : TypeId) (w : World) : (Instr.typeAssert .nilIface xT 16 true).run Try.prog w = .ok (.tuple #[.pointer none, .bool false]) w := by kernel_rfl
@[go_sem] theorem asf16 (v : Value) (xT : TypeId) (w : World) : (Instr.typeAssert (.iface 16 v) xT 16 false).run Try.prog w = .ok v w := by kernel_rfl
theorem asz47 (w : World) : (do pure (Value.tuple #[← zeroValue 47, .bool false]) : Sem Value).run Try.prog w = .ok (.tuple #[.pointer none, .bool false]) w := by kernel_rfl
@[go_sem] theorem as47 (u : TypeId) (v : Value) (xT : TypeId) (w : World) : (Instr.typeAssert (.iface u v) xT 47 true).run Try.prog w = .ok (if u = 47 then .tuple #[v, .bool true] else .tuple #[.pointer none, .bool false]) w := by
  have e : (Instr.typeAssert (.iface u v) xT 47 true).run Try.prog w = (if u = 47 then (pure (Value.tuple #[v, .bool true]) : Sem Value) else (do pure (Value.tuple #[← zeroValue 47, .bool false]))).run Try.prog w := by kernel_rfl
  rw [e]
  split
  · rfl
  · exact asz47 w
@[go_sem] theorem asn47 (xT : TypeId) (w : World) : (Instr.typeAssert .nilIface xT 47 true).run Try.prog w = .ok (.tuple #[.pointer none, .bool false]) w := by kernel_rfl
@[go_sem] theorem asf47 (v : Value) (xT : TypeId) (w : World) : (Instr.typeAssert (.iface 47 v) xT 47 false).run Try.prog w = .ok v w := by kernel_rfl
theorem asz50 (w : World) : (do pure (Value.tuple #[← zeroValue 50, .bool false]) : Sem Value).run Try.prog w = .ok (.tuple #[.pointer none, .bool false]) w := by kernel_rfl
@[go_sem] theorem as50 (u : TypeId) (v : Value) (xT : TypeId) (w : World) : (Instr.typeAssert (.iface u v) xT 50 true).run Try.prog w = .ok (if u = 50 then .tuple #[v, .bool true] else .tuple #[.pointer none, .bool false]) w := by
  have e : (Instr.typeAssert (.iface u v) xT 50 true).run Try.prog w = (if u = 50 then (pure (Value.tuple #[v, .bool true]) : Sem Value) else (do pure (Value.tuple #[← zeroValue 50, .bool false]))).run Try.prog w := by kernel_rfl
  rw [e]
  split
  · rfl
  · exact asz50 w
@[go_sem] theorem asn50 (xT : TypeId) (w : World) : (Instr.typeAssert .nilIface xT 50 true).run Try.prog w = .ok (.tuple #[.pointer none, .bool false]) w := by kernel_rfl
@[go_sem] theorem asf50 (v : Value) (xT : TypeId) (w : World) : (Instr.typeAssert (.iface 50 v) xT 50 false).run Try.prog w = .ok v w := by kernel_rfl
theorem asz76 (w : World) : (do pure (Value.tuple #[← zeroValue 76, .bool false]) : Sem Value).run Try.prog w = .ok (.tuple #[.pointer none, .bool false]) w := by kernel_rfl
@[go_sem] theorem as76 (u : TypeId) (v : Value) (xT : TypeId) (w : World) : (Instr.typeAssert (.iface u v) xT 76 true).run Try.prog w = .ok (if u = 76 then .tuple #[v, .bool true] else .tuple #[.pointer none, .bool false]) w := by
  have e : (Instr.typeAssert (.iface u v) xT 76 true).run Try.prog w = (if u = 76 then (pure (Value.tuple #[v, .bool true]) : Sem Value) else (do pure (Value.tuple #[← zeroValue 76, .bool false]))).run Try.prog w := by kernel_rfl
  rw [e]
  split
  · rfl
  · exact asz76 w
@[go_sem] theorem asn76 (xT : TypeId) (w : World) : (Instr.typeAssert .nilIface xT 76 true).run Try.prog w = .ok (.tuple #[.pointer none, .bool false]) w := by kernel_rfl
@[go_sem] theorem asf76 (v : Value) (xT : TypeId) (w : World) : (Instr.typeAssert (.iface 76 v) xT 76 false).run Try.prog w = .ok v w := by kernel_rfl
theorem asz82 (w : World) : (do pure (Value.tuple #[← zeroValue 82, .bool false]) : Sem Value).run Try.prog w = .ok (.tuple #[.pointer none, .bool false]) w := by kernel_rfl
@[go_sem] theorem as82 (u : TypeId) (v : Value) (xT : TypeId) (w : World) : (Instr.typeAssert (.iface u v) xT 82 true).run Try.prog w = .ok (if u = 82 then .tuple #[v, .bool true] else .tuple #[.pointer none, .bool false]) w := by
  have e : (Instr.typeAssert (.iface u v) xT 82 true).run Try.prog w = (if u = 82 then (pure (Value.tuple #[v, .bool true]) : Sem Value) else (do pure (Value.tuple #[← zeroValue 82, .bool false]))).run Try.prog w := by kernel_rfl
  rw [e]
  split
  · rfl
  · exact asz82 w
@[go_sem] theorem asn82 (xT : TypeId) (w : World) : (Instr.typeAssert .nilIface xT 82 true).run Try.prog w = .ok (.tuple #[.pointer none, .bool false]) w := by kernel_rfl
@[go_sem] theorem asf82 (v : Value) (xT : TypeId) (w : World) : (Instr.typeAssert (.iface 82 v) xT 82 false).run Try.prog w = .ok v w := by kernel_rfl
theorem asz90 (w : World) : (do pure (Value.tuple #[← zeroValue 90, .bool false]) : Sem Value).run Try.prog w = .ok (.tuple #[.pointer none, .bool false]) w := by kernel_rfl
@[go_sem] theorem as90 (u : TypeId) (v : Value) (xT : TypeId) (w : World) : (Instr.typeAssert (.iface u v) xT 90 true).run Try.prog w = .ok (if u = 90 then .tuple #[v, .bool true] else .tuple #[.pointer none, .bool false]) w := by
  have e : (Instr.typeAssert (.iface u v) xT 90 true).run Try.prog w = (if u = 90 then (pure (Value.tuple #[v, .bool true]) : Sem Value) else (do pure (Value.tuple #[← zeroValue 90, .bool false]))).run Try.prog w := by kernel_rfl
  rw [e]
  split
  · rfl
  · exact asz90 w
@[go_sem] theorem asn90 (xT : TypeId) (w : World) : (Instr.typeAssert .nilIface xT 90 true).run Try.prog w = .ok (.tuple #[.pointer none, .bool false]) w := by kernel_rfl
@[go_sem] theorem asf90 (v : Value) (xT : TypeId) (w : World) : (Instr.typeAssert (.iface 90 v) xT 90 false).run Try.prog w = .ok v w := by kernel_rfl
theorem asz93 (w : World) : (do pure (Value.tuple #[← zeroValue 93, .bool false]) : Sem Value).run Try.prog w = .ok (.tuple #[.pointer none, .bool false]) w := by kernel_rfl
@[go_sem] theorem as93 (u : TypeId) (v : Value) (xT : TypeId) (w : World) : (Instr.typeAssert (.iface u v) xT 93 true).run Try.prog w = .ok (if u = 93 then .tuple #[v, .bool true] else .tuple #[.pointer none, .bool false]) w := by
  have e : (Instr.typeAssert (.iface u v) xT 93 true).run Try.prog w = (if u = 93 then (pure (Value.tuple #[v, .bool true]) : Sem Value) else (do pure (Value.tuple #[← zeroValue 93, .bool false]))).run Try.prog w := by kernel_rfl
  rw [e]
  split
  · rfl
  · exact asz93 w
@[go_sem] theorem asn93 (xT : TypeId) (w : World) : (Instr.typeAssert .nilIface xT 93 true).run Try.prog w = .ok (.tuple #[.pointer none, .bool false]) w := by kernel_rfl
@[go_sem] theorem asf93 (v : Value) (xT : TypeId) (w : World) : (Instr.typeAssert (.iface 93 v) xT 93 false).run Try.prog w = .ok v w := by kernel_rfl
theorem asz95 (w : World) : (do pure (Value.tuple #[← zeroValue 95, .bool false]) : Sem Value).run Try.prog w = .ok (.tuple #[.pointer none, .bool false]) w := by kernel_rfl
@[go_sem] theorem as95 (u : TypeId) (v : Value) (xT : TypeId) (w : World) : (Instr.typeAssert (.iface u v) xT 95 true).run Try.prog w = .ok (if u = 95 then .tuple #[v, .bool true] else .tuple #[.pointer none, .bool false]) w := by
  have e : (Instr.typeAssert (.iface u v) xT 95 true).run Try.prog w = (if u = 95 then (pure (Value.tuple #[v, .bool true]) : Sem Value) else (do pure (Value.tuple #[← zeroValue 95, .bool false]))).run Try.prog w := by kernel_rfl
  rw [e]
  split
  · rfl
  · exact asz95 w
@[go_sem] theorem asn95 (xT : TypeId) (w : World) : (Instr.typeAssert .nilIface xT 95 true).run Try.prog w = .ok (.tuple #[.pointer none, .bool false]) w := by kernel_rfl
@[go_sem] theorem asf95 (v : Value) (xT : TypeId) (w : World) : (Instr.typeAssert (.iface 95 v) xT 95 false).run Try.prog w = .ok v w := by kernel_rfl
theorem asz98 (w : World) : (do pure (Value.tuple #[← zeroValue 98, .bool false]) : Sem Value).run Try.prog w = .ok (.tuple #[.pointer none, .bool false]) w := by kernel_rfl
@[go_sem] theorem as98 (u : TypeId) (v : Value) (xT : TypeId) (w : World) : (Instr.typeAssert (.iface u v) xT 98 true).run Try.prog w = .ok (if u = 98 then .tuple #[v, .bool true] else .tuple #[.pointer none, .bool false]) w := by
  have e : (Instr.typeAssert (.iface u v) xT 98 true).run Try.prog w = (if u = 98 then (pure (Value.tuple #[v, .bool true]) : Sem Value) else (do pure (Value.tuple #[← zeroValue 98, .bool false]))).run Try.prog w := by kernel_rfl
  rw [e]
  split
  · rfl
  · exact asz98 w
@[go_sem] theorem asn98 (xT : TypeId) (w : World) : (Instr.typeAssert .nilIface xT 98 true).run Try.prog w = .ok (.tuple #[.pointer none, .bool false]) w := by kernel_rfl
@[go_sem] theorem asf98 (v : Value) (xT : TypeId) (w : World) : (Instr.typeAssert (.iface 98 v) xT 98 false).run Try.prog w = .ok v w := by kernel_rfl
theorem asz103 (w : World) : (do pure (Value.tuple #[← zeroValue 103, .bool false]) : Sem Value).run Try.prog w = .ok (.tuple #[.pointer none, .bool false]) w := by kernel_rfl
@[go_sem] theorem as103 (u : TypeId) (v : Value) (xT : TypeId) (w : World) : (Instr.typeAssert (.iface u v) xT 103 true).run Try.prog w = .ok (if u = 103 then .tuple #[v, .bool true] else .tuple #[.pointer none, .bool false]) w := by
  have e : (Instr.typeAssert (.iface u v) xT 103 true).run Try.prog w = (if u = 103 then (pure (Value.tuple #[v, .bool true]) : Sem Value) else (do pure (Value.tuple #[← zeroValue 103, .bool false]))).run Try.prog w := by kernel_rfl
  rw [e]
  split
  · rfl
  · exact asz103 w
@[go_sem] theorem asn103 (xT : TypeId) (w : World) : (Instr.typeAssert .nilIface xT 103 true).run Try.prog w = .ok (.tuple #[.pointer none, .bool false]) w := by kernel_rfl
@[go_sem] theorem asf103 (v : Value) (xT : TypeId) (w : World) : (Instr.typeAssert (.iface 103 v) xT 103 false).run Try.prog w = .ok v w := by kernel_rfl
theorem asz130 (w : World) : (do pure (Value.tuple #[← zeroValue 130, .bool false]) : Sem Value).run Try.prog w = .ok (.tuple #[.pointer none, .bool false]) w := by kernel_rfl
@[go_sem] theorem as130 (u : TypeId) (v : Value) (xT : TypeId) (w : World) : (Instr.typeAssert (.iface u v) xT 130 true).run Try.prog w = .ok (if u = 130 then .tuple #[v, .bool true] else .tuple #[.pointer none, .bool false]) w := by
  have e : (Instr.typeAssert (.iface u v) xT 130 true).run Try.prog w = (if u = 130 then (pure (Value.tuple #[v, .bool true]) : Sem Value) else (do pure (Value.tuple #[← zeroValue 130, .bool false]))).run Try.prog w := by kernel_rfl
  rw [e]
  split
  · rfl
  · exact asz130 w
@[go_sem] theorem asn130 (xT : TypeId) (w : World) : (Instr.typeAssert .nilIface xT 130 true).run Try.prog w = .ok (.tuple #[.pointer none, .bool false]) w := by kernel_rfl
@[go_sem] theorem asf130 (v : Value) (xT : TypeId) (w : World) : (Instr.typeAssert (.iface 130 v) xT 130 false).run Try.prog w = .ok v w := by kernel_rfl
theorem asz134 (w : World) : (do pure (Value.tuple #[← zeroValue 134, .bool false]) : Sem Value).run Try.prog w = .ok (.tuple #[.pointer none, .bool false]) w := by kernel_rfl
@[go_sem] theorem as134 (u : TypeId) (v : Value) (xT : TypeId) (w : World) : (Instr.typeAssert (.iface u v) xT 134 true).run Try.prog w = .ok (if u = 134 then .tuple #[v, .bool true] else .tuple #[.pointer none, .bool false]) w := by
  have e : (Instr.typeAssert (.iface u v) xT 134 true).run Try.prog w = (if u = 134 then (pure (Value.tuple #[v, .bool true]) : Sem Value) else (do pure (Value.tuple #[← zeroValue 134, .bool false]))).run Try.prog w := by kernel_rfl
  rw [e]
  split
  · rfl
  · exact asz134 w
@[go_sem] theorem asn134 (xT : TypeId) (w : World) : (Instr.typeAssert .nilIface xT 134 true).run Try.prog w = .ok (.tuple #[.pointer none, .bool false]) w := by kernel_rfl
@[go_sem] theorem asf134 (v : Value) (xT : TypeId) (w : World) : (Instr.typeAssert (.iface 134 v) xT 134 false).run Try.prog w = .ok v w := by kernel_rfl
theorem asz139 (w : World) : (do pure (Value.tuple #[← zeroValue 139, .bool false]) : Sem Value).run Try.prog w = .ok (.tuple #[.pointer none, .bool false]) w := by kernel_rfl
@[go_sem] theorem as139 (u : TypeId) (v : Value) (xT : TypeId) (w : World) : (Instr.typeAssert (.iface u v) xT 139 true).run Try.prog w = .ok (if u = 139 then .tuple #[v, .bool true] else .tuple #[.pointer none, .bool false]) w := by
  have e : (Instr.typeAssert (.iface u v) xT 139 true).run Try.prog w = (if u = 139 then (pure (Value.tuple #[v, .bool true]) : Sem Value) else (do pure (Value.tuple #[← zeroValue 139, .bool false]))).run Try.prog w := by kernel_rfl
  rw [e]
  split
  · rfl
  · exact asz139 w
@[go_sem] theorem asn139 (xT : TypeId) (w : World) : (Instr.typeAssert .nilIface xT 139 true).run Try.prog w = .ok (.tuple #[.pointer none, .bool false]) w := by kernel_rfl
@[go_sem] theorem asf139 (v : Value) (xT : TypeId) (w : World) : (Instr.typeAssert (.iface 139 v) xT 139 false).run Try.prog w = .ok v w := by kernel_rfl

end Go.Proofs.Ythhophbddnfnnaa
