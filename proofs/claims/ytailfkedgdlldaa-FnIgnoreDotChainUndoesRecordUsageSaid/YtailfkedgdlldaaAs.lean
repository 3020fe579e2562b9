/-
  What asserting an interface value to a pointer type of this program answers: one law for each type.
-/
import Derived.Test.YtailfkedgdlldaaKit
namespace Go.Proofs.Ytailfkedgdlldaa

theorem asz206 (w : World) : (do pure (Value.tuple #[← zeroValue 206, .bool false]) : Sem Value).run Try.prog w = .ok (.tuple #[.pointer none, .bool false]) w := by kernel_rfl
@[go_sem] theorem as206 (u : TypeId) (v : Value) (xT : TypeId) (w : World) : (Instr.typeAssert (.iface u v) xT 206 true).run Try.prog w = .ok (if u = 206 then .tuple #[v, .bool true] else .tuple #[.pointer none, .bool false]) w := by
  have e : (Instr.typeAssert (.iface u v) xT 206 true).run Try.prog w = (if u = 206 then (pure (Value.tuple #[v, .bool true]) : Sem Value) else (do pure (Value.tuple #[← zeroValue 206, .bool false]))).run Try.prog w := by kernel_rfl
  rw [e]
  split
  · rfl
  · exact asz206 w
@[go_sem] theorem asn206 (xT : TypeId) (w : World) : (Instr.typeAssert .nilIface xT 206 true).run Try.prog w = .ok (.tuple #[.pointer none, .bool false]) w := by kernel_rfl
@[go_sem] theorem asf206 (v : Value) (xT : TypeId) (w : World) : (Instr.typeAssert (.iface 206 v) xT 206 false).run Try.prog w = .ok v w := by kernel_rfl
theorem asz209 (w : World) : (do pure (Value.tuple #[← zeroValue 209, .bool false]) : Sem Value).run Try.prog w = .ok (.tuple #[.pointer none, .bool false]) w := by kernel_rfl
@[go_sem] theorem as209 (u : TypeId) (v : Value) (xT : TypeId) (w : World) : (Instr.typeAssert (.iface u v) xT 209 true).run Try.prog w = .ok (if u = 209 then .tuple #[v, .bool true] else .tuple #[.pointer none, .bool false]) w := by
  have e : (Instr.typeAssert (.iface u v) xT 209 true).run Try.prog w = (if u = 209 then (pure (Value.tuple #[v, .bool true]) : Sem Value) else (do pure (Value.tuple #[← zeroValue 209, .bool false]))).run Try.prog w := by kernel_rfl
  rw [e]
  split
  · rfl
  · exact asz209 w
@[go_sem] theorem asn209 (xT : TypeId) (w : World) : (Instr.typeAssert .nilIface xT 209 true).run Try.prog w = .ok (.tuple #[.pointer none, .bool false]) w := by kernel_rfl
@[go_sem] theorem asf209 (v : Value) (xT : TypeId) (w : World) : (Instr.typeAssert (.iface 209 v) xT 209 false).run Try.prog w = .ok v w := by kernel_rfl
theorem asz213 (w : World) : (do pure (Value.tuple #[← zeroValue 213, .bool false]) : Sem Value).run Try.prog w = .ok (.tuple #[.pointer none, .bool false]) w := by kernel_rfl
@[go_sem] theorem as213 (u : TypeId) (v : Value) (xT : TypeId) (w : World) : (Instr.typeAssert (.iface u v) xT 213 true).run Try.prog w = .ok (if u = 213 then .tuple #[v, .bool true] else .tuple #[.pointer none, .bool false]) w := by
  have e : (Instr.typeAssert (.iface u v) xT 213 true).run Try.prog w = (if u = 213 then (pure (Value.tuple #[v, .bool true]) : Sem Value) else (do pure (Value.tuple #[← zeroValue 213, .bool false]))).run Try.prog w := by kernel_rfl
  rw [e]
  split
  · rfl
  · exact asz213 w
@[go_sem] theorem asn213 (xT : TypeId) (w : World) : (Instr.typeAssert .nilIface xT 213 true).run Try.prog w = .ok (.tuple #[.pointer none, .bool false]) w := by kernel_rfl
@[go_sem] theorem asf213 (v : Value) (xT : TypeId) (w : World) : (Instr.typeAssert (.iface 213 v) xT 213 false).run Try.prog w = .ok v w := by kernel_rfl
theorem asz214 (w : World) : (do pure (Value.tuple #[← zeroValue 214, .bool false]) : Sem Value).run Try.prog w = .ok (.tuple #[.pointer none, .bool false]) w := by kernel_rfl
@[go_sem] theorem as214 (u : TypeId) (v : Value) (xT : TypeId) (w : World) : (Instr.typeAssert (.iface u v) xT 214 true).run Try.prog w = .ok (if u = 214 then .tuple #[v, .bool true] else .tuple #[.pointer none, .bool false]) w := by
  have e : (Instr.typeAssert (.iface u v) xT 214 true).run Try.prog w = (if u = 214 then (pure (Value.tuple #[v, .bool true]) : Sem Value) else (do pure (Value.tuple #[← zeroValue 214, .bool false]))).run Try.prog w := by kernel_rfl
  rw [e]
  split
  · rfl
  · exact asz214 w
@[go_sem] theorem asn214 (xT : TypeId) (w : World) : (Instr.typeAssert .nilIface xT 214 true).run Try.prog w = .ok (.tuple #[.pointer none, .bool false]) w := by kernel_rfl
@[go_sem] theorem asf214 (v : Value) (xT : TypeId) (w : World) : (Instr.typeAssert (.iface 214 v) xT 214 false).run Try.prog w = .ok v w := by kernel_rfl

end Go.Proofs.Ytailfkedgdlldaa
