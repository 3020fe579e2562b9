/-
  What asserting an interface value to a pointer type of this program answers: one law for each type.
-/
import Derived.Test.YtfmfniddnlpkmaaDoorKit
namespace Go.Proofs.YtfmfniddnlpkmaaDoor

theorem asz24 (w : World) : (do pure (Value.tuple #[← zeroValue 24, .bool false]) : Sem Value).run Tryd.prog w = .ok (.tuple #[.pointer none, .bool false]) w := by kernel_rfl
@[go_sem] theorem as24 (u : TypeId) (v : Value) (xT : TypeId) (w : World) : (Instr.typeAssert (.iface u v) xT 24 true).run Tryd.prog w = .ok (if u = 24 then .tuple #[v, .bool true] else .tuple #[.pointer none, .bool false]) w := by
  have e : (Instr.typeAssert (.iface u v) xT 24 true).run Tryd.prog w = (if u = 24 then (pure (Value.tuple #[v, .bool true]) : Sem Value) else (do pure (Value.tuple #[← zeroValue 24, .bool false]))).run Tryd.prog w := by kernel_rfl
  rw [e]
  split
  · rfl
  · exact asz24 w
@[go_sem] theorem asn24 (xT : TypeId) (w : World) : (Instr.typeAssert .nilIface xT 24 true).run Tryd.prog w = .ok (.tuple #[.pointer none, .bool false]) w := by kernel_rfl
@[go_sem] theorem asf24 (v : Value) (xT : TypeId) (w : World) : (Instr.typeAssert (.iface 24 v) xT 24 false).run Tryd.prog w = .ok v w := by kernel_rfl
theorem asz203 (w : World) : (do pure (Value.tuple #[← zeroValue 203, .bool false]) : Sem Value).run Tryd.prog w = .ok (.tuple #[.pointer none, .bool false]) w := by kernel_rfl
@[go_sem] theorem as203 (u : TypeId) (v : Value) (xT : TypeId) (w : World) : (Instr.typeAssert (.iface u v) xT 203 true).run Tryd.prog w = .ok (if u = 203 then .tuple #[v, .bool true] else .tuple #[.pointer none, .bool false]) w := by
  have e : (Instr.typeAssert (.iface u v) xT 203 true).run Tryd.prog w = (if u = 203 then (pure (Value.tuple #[v, .bool true]) : Sem Value) else (do pure (Value.tuple #[← zeroValue 203, .bool false]))).run Tryd.prog w := by kernel_rfl
  rw [e]
  split
  · rfl
  · exact asz203 w
@[go_sem] theorem asn203 (xT : TypeId) (w : World) : (Instr.typeAssert .nilIface xT 203 true).run Tryd.prog w = .ok (.tuple #[.pointer none, .bool false]) w := by kernel_rfl
@[go_sem] theorem asf203 (v : Value) (xT : TypeId) (w : World) : (Instr.typeAssert (.iface 203 v) xT 203 false).run Tryd.prog w = .ok v w := by kernel_rfl
theorem asz206 (w : World) : (do pure (Value.tuple #[← zeroValue 206, .bool false]) : Sem Value).run Tryd.prog w = .ok (.tuple #[.pointer none, .bool false]) w := by kernel_rfl
@[go_sem] theorem as206 (u : TypeId) (v : Value) (xT : TypeId) (w : World) : (Instr.typeAssert (.iface u v) xT 206 true).run Tryd.prog w = .ok (if u = 206 then .tuple #[v, .bool true] else .tuple #[.pointer none, .bool false]) w := by
  have e : (Instr.typeAssert (.iface u v) xT 206 true).run Tryd.prog w = (if u = 206 then (pure (Value.tuple #[v, .bool true]) : Sem Value) else (do pure (Value.tuple #[← zeroValue 206, .bool false]))).run Tryd.prog w := by kernel_rfl
  rw [e]
  split
  · rfl
  · exact asz206 w
@[go_sem] theorem asn206 (xT : TypeId) (w : World) : (Instr.typeAssert .nilIface xT 206 true).run Tryd.prog w = .ok (.tuple #[.pointer none, .bool false]) w := by kernel_rfl
@[go_sem] theorem asf206 (v : Value) (xT : TypeId) (w : World) : (Instr.typeAssert (.iface 206 v) xT 206 false).run Tryd.prog w = .ok v w := by kernel_rfl
theorem asz209 (w : World) : (do pure (Value.tuple #[← zeroValue 209, .bool false]) : Sem Value).run Tryd.prog w = .ok (.tuple #[.pointer none, .bool false]) w := by kernel_rfl
@[go_sem] theorem as209 (u : TypeId) (v : Value) (xT : TypeId) (w : World) : (Instr.typeAssert (.iface u v) xT 209 true).run Tryd.prog w = .ok (if u = 209 then .tuple #[v, .bool true] else .tuple #[.pointer none, .bool false]) w := by
  have e : (Instr.typeAssert (.iface u v) xT 209 true).run Tryd.prog w = (if u = 209 then (pure (Value.tuple #[v, .bool true]) : Sem Value) else (do pure (Value.tuple #[← zeroValue 209, .bool false]))).run Tryd.prog w := by kernel_rfl
  rw [e]
  split
  · rfl
  · exact asz209 w
@[go_sem] theorem asn209 (xT : TypeId) (w : World) : (Instr.typeAssert .nilIface xT 209 true).run Tryd.prog w = .ok (.tuple #[.pointer none, .bool false]) w := by kernel_rfl
@[go_sem] theorem asf209 (v : Value) (xT : TypeId) (w : World) : (Instr.typeAssert (.iface 209 v) xT 209 false).run Tryd.prog w = .ok v w := by kernel_rfl
theorem asz213 (w : World) : (do pure (Value.tuple #[← zeroValue 213, .bool false]) : Sem Value).run Tryd.prog w = .ok (.tuple #[.pointer none, .bool false]) w := by kernel_rfl
@[go_sem] theorem as213 (u : TypeId) (v : Value) (xT : TypeId) (w : World) : (Instr.typeAssert (.iface u v) xT 213 true).run Tryd.prog w = .ok (if u = 213 then .tuple #[v, .bool true] else .tuple #[.pointer none, .bool false]) w := by
  have e : (Instr.typeAssert (.iface u v) xT 213 true).run Tryd.prog w = (if u = 213 then (pure (Value.tuple #[v, .bool true]) : Sem Value) else (do pure (Value.tuple #[← zeroValue 213, .bool false]))).run Tryd.prog w := by kernel_rfl
  rw [e]
  split
  · rfl
  · exact asz213 w
@[go_sem] theorem asn213 (xT : TypeId) (w : World) : (Instr.typeAssert .nilIface xT 213 true).run Tryd.prog w = .ok (.tuple #[.pointer none, .bool false]) w := by kernel_rfl
@[go_sem] theorem asf213 (v : Value) (xT : TypeId) (w : World) : (Instr.typeAssert (.iface 213 v) xT 213 false).run Tryd.prog w = .ok v w := by kernel_rfl
theorem asz249 (w : World) : (do pure (Value.tuple #[← zeroValue 249, .bool false]) : Sem Value).run Tryd.prog w = .ok (.tuple #[.pointer none, .bool false]) w := by kernel_rfl
@[go_sem] theorem as249 (u : TypeId) (v : Value) (xT : TypeId) (w : World) : (Instr.typeAssert (.iface u v) xT 249 true).run Tryd.prog w = .ok (if u = 249 then .tuple #[v, .bool true] else .tuple #[.pointer none, .bool false]) w := by
  have e : (Instr.typeAssert (.iface u v) xT 249 true).run Tryd.prog w = (if u = 249 then (pure (Value.tuple #[v, .bool true]) : Sem Value) else (do pure (Value.tuple #[← zeroValue 249, .bool false]))).run Tryd.prog w := by kernel_rfl
  rw [e]
  split
  · rfl
  · exact asz249 w
@[go_sem] theorem asn249 (xT : TypeId) (w : World) : (Instr.typeAssert .nilIface xT 249 true).run Tryd.prog w = .ok (.tuple #[.pointer none, .bool false]) w := by kernel_rfl
@[go_sem] theorem asf249 (v : Value) (xT : TypeId) (w : World) : (Instr.typeAssert (.iface 249 v) xT 249 false).run Tryd.prog w = .ok v w := by kernel_rfl

end Go.Proofs.YtfmfniddnlpkmaaDoor
