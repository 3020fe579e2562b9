/-
  What asserting an interface value to a pointer type of this program answers: one law for each type.
-/
import Derived.Test.YtgefhkjidldjlabKit
namespace Go.Proofs.Ytgefhkjidldjlab

theorem asz182 (w : World) : (do pure (Value.tuple #[← zeroValue 182, .bool false]) : Sem Value).run Try.prog w = .ok (.tuple #[.pointer none, .bool false]) w := by kernel_rfl
@[go_sem] theorem as182 (u : TypeId) (v : Value) (xT : TypeId) (w : World) : (Instr.typeAssert (.iface u v) xT 182 true).run Try.prog w = .ok (if u = 182 then .tuple #[v, .bool true] else .tuple #[.pointer none, .bool false]) w := by
  have e : (Instr.typeAssert (.iface u v) xT 182 true).run Try.prog w = (if u = 182 then (pure (Value.tuple #[v, .bool true]) : Sem Value) else (do pure (Value.tuple #[← zeroValue 182, .bool false]))).run Try.prog w := by kernel_rfl
  rw [e]
  split
  · rfl
  · exact asz182 w
@[go_sem] theorem asn182 (xT : TypeId) (w : World) : (Instr.typeAssert .nilIface xT 182 true).run Try.prog w = .ok (.tuple #[.pointer none, .bool false]) w := by kernel_rfl
@[go_sem] theorem asf182 (v : Value) (xT : TypeId) (w : World) : (Instr.typeAssert (.iface 182 v) xT 182 false).run Try.prog w = .ok v w := by kernel_rfl
theorem asz185 (w : World) : (do pure (Value.tuple #[← zeroValue 185, .bool false]) : Sem Value).run Try.prog w = .ok (.tuple #[.pointer none, .bool false]) w := by kernel_rfl
@[go_sem] theorem as185 (u : TypeId) (v : Value) (xT : TypeId) (w : World) : (Instr.typeAssert (.iface u v) xT 185 true).run Try.prog w = .ok (if u = 185 then .tuple #[v, .bool true] else .tuple #[.pointer none, .bool false]) w := by
  have e : (Instr.typeAssert (.iface u v) xT 185 true).run Try.prog w = (if u = 185 then (pure (Value.tuple #[v, .bool true]) : Sem Value) else (do pure (Value.tuple #[← zeroValue 185, .bool false]))).run Try.prog w := by kernel_rfl
  rw [e]
  split
  · rfl
  · exact asz185 w
@[go_sem] theorem asn185 (xT : TypeId) (w : World) : (Instr.typeAssert .nilIface xT 185 true).run Try.prog w = .ok (.tuple #[.pointer none, .bool false]) w := by kernel_rfl
@[go_sem] theorem asf185 (v : Value) (xT : TypeId) (w : World) : (Instr.typeAssert (.iface 185 v) xT 185 false).run Try.prog w = .ok v w := by kernel_rfl
theorem asz188 (w : World) : (do pure (Value.tuple #[← zeroValue 188, .bool false]) : Sem Value).run Try.prog w = .ok (.tuple #[.pointer none, .bool false]) w := by kernel_rfl
@[go_sem] theorem as188 (u : TypeId) (v : Value) (xT : TypeId) (w : World) : (Instr.typeAssert (.iface u v) xT 188 true).run Try.prog w = .ok (if u = 188 then .tuple #[v, .bool true] else .tuple #[.pointer none, .bool false]) w := by
  have e : (Instr.typeAssert (.iface u v) xT 188 true).run Try.prog w = (if u = 188 then (pure (Value.tuple #[v, .bool true]) : Sem Value) else (do pure (Value.tuple #[← zeroValue 188, .bool false]))).run Try.prog w := by kernel_rfl
  rw [e]
  split
  · rfl
  · exact asz188 w
@[go_sem] theorem asn188 (xT : TypeId) (w : World) : (Instr.typeAssert .nilIface xT 188 true).run Try.prog w = .ok (.tuple #[.pointer none, .bool false]) w := by kernel_rfl
@[go_sem] theorem asf188 (v : Value) (xT : TypeId) (w : World) : (Instr.typeAssert (.iface 188 v) xT 188 false).run Try.prog w = .ok v w := by kernel_rfl
theorem asz190 (w : World) : (do pure (Value.tuple #[← zeroValue 190, .bool false]) : Sem Value).run Try.prog w = .ok (.tuple #[.pointer none, .bool false]) w := by kernel_rfl
@[go_sem] theorem as190 (u : TypeId) (v : Value) (xT : TypeId) (w : World) : (Instr.typeAssert (.iface u v) xT 190 true).run Try.prog w = .ok (if u = 190 then .tuple #[v, .bool true] else .tuple #[.pointer none, .bool false]) w := by
  have e : (Instr.typeAssert (.iface u v) xT 190 true).run Try.prog w = (if u = 190 then (pure (Value.tuple #[v, .bool true]) : Sem Value) else (do pure (Value.tuple #[← zeroValue 190, .bool false]))).run Try.prog w := by kernel_rfl
  rw [e]
  split
  · rfl
  · exact asz190 w
@[go_sem] theorem asn190 (xT : TypeId) (w : World) : (Instr.typeAssert .nilIface xT 190 true).run Try.prog w = .ok (.tuple #[.pointer none, .bool false]) w := by kernel_rfl
@[go_sem] theorem asf190 (v : Value) (xT : TypeId) (w : World) : (Instr.typeAssert (.iface 190 v) xT 190 false).run Try.prog w = .ok v w := by kernel_rfl
theorem asz193 (w : World) : (do pure (Value.tuple #[← zeroValue 193, .bool false]) : Sem Value).run Try.prog w = .ok (.tuple #[.pointer none, .bool false]) w := by kernel_rfl
@[go_sem] theorem as193 (u : TypeId) (v : Value) (xT : TypeId) (w : World) : (Instr.typeAssert (.iface u v) xT 193 true).run Try.prog w = .ok (if u = 193 then .tuple #[v, .bool true] else .tuple #[.pointer none, .bool false]) w := by
  have e : (Instr.typeAssert (.iface u v) xT 193 true).run Try.prog w = (if u = 193 then (pure (Value.tuple #[v, .bool true]) : Sem Value) else (do pure (Value.tuple #[← zeroValue 193, .bool false]))).run Try.prog w := by kernel_rfl
  rw [e]
  split
  · rfl
  · exact asz193 w
@[go_sem] theorem asn193 (xT : TypeId) (w : World) : (Instr.typeAssert .nilIface xT 193 true).run Try.prog w = .ok (.tuple #[.pointer none, .bool false]) w := by kernel_rfl
@[go_sem] theorem asf193 (v : Value) (xT : TypeId) (w : World) : (Instr.typeAssert (.iface 193 v) xT 193 false).run Try.prog w = .ok v w := by kernel_rfl
theorem asz196 (w : World) : (do pure (Value.tuple #[← zeroValue 196, .bool false]) : Sem Value).run Try.prog w = .ok (.tuple #[.pointer none, .bool false]) w := by kernel_rfl
@[go_sem] theorem as196 (u : TypeId) (v : Value) (xT : TypeId) (w : World) : (Instr.typeAssert (.iface u v) xT 196 true).run Try.prog w = .ok (if u = 196 then .tuple #[v, .bool true] else .tuple #[.pointer none, .bool false]) w := by
  have e : (Instr.typeAssert (.iface u v) xT 196 true).run Try.prog w = (if u = 196 then (pure (Value.tuple #[v, .bool true]) : Sem Value) else (do pure (Value.tuple #[← zeroValue 196, .bool false]))).run Try.prog w := by kernel_rfl
  rw [e]
  split
  · rfl
  · exact asz196 w
@[go_sem] theorem asn196 (xT : TypeId) (w : World) : (Instr.typeAssert .nilIface xT 196 true).run Try.prog w = .ok (.tuple #[.pointer none, .bool false]) w := by kernel_rfl
@[go_sem] theorem asf196 (v : Value) (xT : TypeId) (w : World) : (Instr.typeAssert (.iface 196 v) xT 196 false).run Try.prog w = .ok v w := by kernel_rfl
theorem asz199 (w : World) : (do pure (Value.tuple #[← zeroValue 199, .bool false]) : Sem Value).run Try.prog w = .ok (.tuple #[.pointer none, .bool false]) w := by kernel_rfl
@[go_sem] theorem as199 (u : TypeId) (v : Value) (xT : TypeId) (w : World) : (Instr.typeAssert (.iface u v) xT 199 true).run Try.prog w = .ok (if u = 199 then .tuple #[v, .bool true] else .tuple #[.pointer none, .bool false]) w := by
  have e : (Instr.typeAssert (.iface u v) xT 199 true).run Try.prog w = (if u = 199 then (pure (Value.tuple #[v, .bool true]) : Sem Value) else (do pure (Value.tuple #[← zeroValue 199, .bool false]))).run Try.prog w := by kernel_rfl
  rw [e]
  split
  · rfl
  · exact asz199 w
@[go_sem] theorem asn199 (xT : TypeId) (w : World) : (Instr.typeAssert .nilIface xT 199 true).run Try.prog w = .ok (.tuple #[.pointer none, .bool false]) w := by kernel_rfl
@[go_sem] theorem asf199 (v : Value) (xT : TypeId) (w : World) : (Instr.typeAssert (.iface 199 v) xT 199 false).run Try.prog w = .ok v w := by kernel_rfl
theorem asz202 (w : World) : (do pure (Value.tuple #[← zeroValue 202, .bool false]) : Sem Value).run Try.prog w = .ok (.tuple #[.pointer none, .bool false]) w := by kernel_rfl
@[go_sem] theorem as202 (u : TypeId) (v : Value) (xT : TypeId) (w : World) : (Instr.typeAssert (.iface u v) xT 202 true).run Try.prog w = .ok (if u = 202 then .tuple #[v, .bool true] else .tuple #[.pointer none, .bool false]) w := by
  have e : (Instr.typeAssert (.iface u v) xT 202 true).run Try.prog w = (if u = 202 then (pure (Value.tuple #[v, .bool true]) : Sem Value) else (do pure (Value.tuple #[← zeroValue 202, .bool false]))).run Try.prog w := by kernel_rfl
  rw [e]
  split
  · rfl
  · exact asz202 w
@[go_sem] theorem asn202 (xT : TypeId) (w : World) : (Instr.typeAssert .nilIface xT 202 true).run Try.prog w = .ok (.tuple #[.pointer none, .bool false]) w := by kernel_rfl
@[go_sem] theorem asf202 (v : Value) (xT : TypeId) (w : World) : (Instr.typeAssert (.iface 202 v) xT 202 false).run Try.prog w = .ok v w := by kernel_rfl
theorem asz205 (w : World) : (do pure (Value.tuple #[← zeroValue 205, .bool false]) : Sem Value).run Try.prog w = .ok (.tuple #[.pointer none, .bool false]) w := by kernel_rfl
@[go_sem] theorem as205 (u : TypeId) (v : Value) (xT : TypeId) (w : World) : (Instr.typeAssert (.iface u v) xT 205 true).run Try.prog w = .ok (if u = 205 then .tuple #[v, .bool true] else .tuple #[.pointer none, .bool false]) w := by
  have e : (Instr.typeAssert (.iface u v) xT 205 true).run Try.prog w = (if u = 205 then (pure (Value.tuple #[v, .bool true]) : Sem Value) else (do pure (Value.tuple #[← zeroValue 205, .bool false]))).run Try.prog w := by kernel_rfl
  rw [e]
  split
  · rfl
  · exact asz205 w
@[go_sem] theorem asn205 (xT : TypeId) (w : World) : (Instr.typeAssert .nilIface xT 205 true).run Try.prog w = .ok (.tuple #[.pointer none, .bool false]) w := by kernel_rfl
@[go_sem] theorem asf205 (v : Value) (xT : TypeId) (w : World) : (Instr.typeAssert (.iface 205 v) xT 205 false).run Try.prog w = .ok v w := by kernel_rfl
theorem asz208 (w : World) : (do pure (Value.tuple #[← zeroValue 208, .bool false]) : Sem Value).run Try.prog w = .ok (.tuple #[.pointer none, .bool false]) w := by kernel_rfl
@[go_sem] theorem as208 (u : TypeId) (v : Value) (xT : TypeId) (w : World) : (Instr.typeAssert (.iface u v) xT 208 true).run Try.prog w = .ok (if u = 208 then .tuple #[v, .bool true] else .tuple #[.pointer none, .bool false]) w := by
  have e : (Instr.typeAssert (.iface u v) xT 208 true).run Try.prog w = (if u = 208 then (pure (Value.tuple #[v, .bool true]) : Sem Value) else (do pure (Value.tuple #[← zeroValue 208, .bool false]))).run Try.prog w := by kernel_rfl
  rw [e]
  split
  · rfl
  · exact asz208 w
@[go_sem] theorem asn208 (xT : TypeId) (w : World) : (Instr.typeAssert .nilIface xT 208 true).run Try.prog w = .ok (.tuple #[.pointer none, .bool false]) w := by kernel_rfl
@[go_sem] theorem asf208 (v : Value) (xT : TypeId) (w : World) : (Instr.typeAssert (.iface 208 v) xT 208 false).run Try.prog w = .ok v w := by kernel_rfl
theorem asz211 (w : World) : (do pure (Value.tuple #[← zeroValue 211, .bool false]) : Sem Value).run Try.prog w = .ok (.tuple #[.pointer none, .bool false]) w := by kernel_rfl
@[go_sem] theorem as211 (u : TypeId) (v : Value) (xT : TypeId) (w : World) : (Instr.typeAssert (.iface u v) xT 211 true).run Try.prog w = .ok (if u = 211 then .tuple #[v, .bool true] else .tuple #[.pointer none, .bool false]) w := by
  have e : (Instr.typeAssert (.iface u v) xT 211 true).run Try.prog w = (if u = 211 then (pure (Value.tuple #[v, .bool true]) : Sem Value) else (do pure (Value.tuple #[← zeroValue 211, .bool false]))).run Try.prog w := by kernel_rfl
  rw [e]
  split
  · rfl
  · exact asz211 w
@[go_sem] theorem asn211 (xT : TypeId) (w : World) : (Instr.typeAssert .nilIface xT 211 true).run Try.prog w = .ok (.tuple #[.pointer none, .bool false]) w := by kernel_rfl
@[go_sem] theorem asf211 (v : Value) (xT : TypeId) (w : World) : (Instr.typeAssert (.iface 211 v) xT 211 false).run Try.prog w = .ok v w := by kernel_rfl
theorem asz214 (w : World) : (do pure (Value.tuple #[← zeroValue 214, .bool false]) : Sem Value).run Try.prog w = .ok (.tuple #[.pointer none, .bool false]) w := by kernel_rfl
@[go_sem] theorem as214 (u : TypeId) (v : Value) (xT : TypeId) (w : World) : (Instr.typeAssert (.iface u v) xT 214 true).run Try.prog w = .ok (if u = 214 then .tuple #[v, .bool true] else .tuple #[.pointer none, .bool false]) w := by
  have e : (Instr.typeAssert (.iface u v) xT 214 true).run Try.prog w = (if u = 214 then (pure (Value.tuple #[v, .bool true]) : Sem Value) else (do pure (Value.tuple #[← zeroValue 214, .bool false]))).run Try.prog w := by kernel_rfl
  rw [e]
  split
  · rfl
  · exact asz214 w
@[go_sem] theorem asn214 (xT : TypeId) (w : World) : (Instr.typeAssert .nilIface xT 214 true).run Try.prog w = .ok (.tuple #[.pointer none, .bool false]) w := by kernel_rfl
@[go_sem] theorem asf214 (v : Value) (xT : TypeId) (w : World) : (Instr.typeAssert (.iface 214 v) xT 214 false).run Try.prog w = .ok v w := by kernel_rfl
theorem asz219 (w : World) : (do pure (Value.tuple #[← zeroValue 219, .bool false]) : Sem Value).run Try.prog w = .ok (.tuple #[.pointer none, .bool false]) w := by kernel_rfl
@[go_sem] theorem as219 (u : TypeId) (v : Value) (xT : TypeId) (w : World) : (Instr.typeAssert (.iface u v) xT 219 true).run Try.prog w = .ok (if u = 219 then .tuple #[v, .bool true] else .tuple #[.pointer none, .bool false]) w := by
  have e : (Instr.typeAssert (.iface u v) xT 219 true).run Try.prog w = (if u = 219 then (pure (Value.tuple #[v, .bool true]) : Sem Value) else (do pure (Value.tuple #[← zeroValue 219, .bool false]))).run Try.prog w := by kernel_rfl
  rw [e]
  split
  · rfl
  · exact asz219 w
@[go_sem] theorem asn219 (xT : TypeId) (w : World) : (Instr.typeAssert .nilIface xT 219 true).run Try.prog w = .ok (.tuple #[.pointer none, .bool false]) w := by kernel_rfl
@[go_sem] theorem asf219 (v : Value) (xT : TypeId) (w : World) : (Instr.typeAssert (.iface 219 v) xT 219 false).run Try.prog w = .ok v w := by kernel_rfl
theorem asz223 (w : World) : (do pure (Value.tuple #[← zeroValue 223, .bool false]) : Sem Value).run Try.prog w = .ok (.tuple #[.pointer none, .bool false]) w := by kernel_rfl
@[go_sem] theorem as223 (u : TypeId) (v : Value) (xT : TypeId) (w : World) : (Instr.typeAssert (.iface u v) xT 223 true).run Try.prog w = .ok (if u = 223 then .tuple #[v, .bool true] else .tuple #[.pointer none, .bool false]) w := by
  have e : (Instr.typeAssert (.iface u v) xT 223 true).run Try.prog w = (if u = 223 then (pure (Value.tuple #[v, .bool true]) : Sem Value) else (do pure (Value.tuple #[← zeroValue 223, .bool false]))).run Try.prog w := by kernel_rfl
  rw [e]
  split
  · rfl
  · exact asz223 w
@[go_sem] theorem asn223 (xT : TypeId) (w : World) : (Instr.typeAssert .nilIface xT 223 true).run Try.prog w = .ok (.tuple #[.pointer none, .bool false]) w := by kernel_rfl
@[go_sem] theorem asf223 (v : Value) (xT : TypeId) (w : World) : (Instr.typeAssert (.iface 223 v) xT 223 false).run Try.prog w = .ok v w := by kernel_rfl
theorem asz226 (w : World) : (do pure (Value.tuple #[← zeroValue 226, .bool false]) : Sem Value).run Try.prog w = .ok (.tuple #[.pointer none, .bool false]) w := by kernel_rfl
@[go_sem] theorem as226 (u : TypeId) (v : Value) (xT : TypeId) (w : World) : (Instr.typeAssert (.iface u v) xT 226 true).run Try.prog w = .ok (if u = 226 then .tuple #[v, .bool true] else .tuple #[.pointer none, .bool false]) w := by
  have e : (Instr.typeAssert (.iface u v) xT 226 true).run Try.prog w = (if u = 226 then (pure (Value.tuple #[v, .bool true]) : Sem Value) else (do pure (Value.tuple #[← zeroValue 226, .bool false]))).run Try.prog w := by kernel_rfl
  rw [e]
  split
  · rfl
  · exact asz226 w
@[go_sem] theorem asn226 (xT : TypeId) (w : World) : (Instr.typeAssert .nilIface xT 226 true).run Try.prog w = .ok (.tuple #[.pointer none, .bool false]) w := by kernel_rfl
@[go_sem] theorem asf226 (v : Value) (xT : TypeId) (w : World) : (Instr.typeAssert (.iface 226 v) xT 226 false).run Try.prog w = .ok v w := by kernel_rfl
theorem asz229 (w : World) : (do pure (Value.tuple #[← zeroValue 229, .bool false]) : Sem Value).run Try.prog w = .ok (.tuple #[.pointer none, .bool false]) w := by kernel_rfl
@[go_sem] theorem as229 (u : TypeId) (v : Value) (xT : TypeId) (w : World) : (Instr.typeAssert (.iface u v) xT 229 true).run Try.prog w = .ok (if u = 229 then .tuple #[v, .bool true] else .tuple #[.pointer none, .bool false]) w := by
  have e : (Instr.typeAssert (.iface u v) xT 229 true).run Try.prog w = (if u = 229 then (pure (Value.tuple #[v, .bool true]) : Sem Value) else (do pure (Value.tuple #[← zeroValue 229, .bool false]))).run Try.prog w := by kernel_rfl
  rw [e]
  split
  · rfl
  · exact asz229 w
@[go_sem] theorem asn229 (xT : TypeId) (w : World) : (Instr.typeAssert .nilIface xT 229 true).run Try.prog w = .ok (.tuple #[.pointer none, .bool false]) w := by kernel_rfl
@[go_sem] theorem asf229 (v : Value) (xT : TypeId) (w : World) : (Instr.typeAssert (.iface 229 v) xT 229 false).run Try.prog w = .ok v w := by kernel_rfl
theorem asz233 (w : World) : (do pure (Value.tuple #[← zeroValue 233, .bool false]) : Sem Value).run Try.prog w = .ok (.tuple #[.pointer none, .bool false]) w := by kernel_rfl
@[go_sem] theorem as233 (u : TypeId) (v : Value) (xT : TypeId) (w : World) : (Instr.typeAssert (.iface u v) xT 233 true).run Try.prog w = .ok (if u = 233 then .tuple #[v, .bool true] else .tuple #[.pointer none, .bool false]) w := by
  have e : (Instr.typeAssert (.iface u v) xT 233 true).run Try.prog w = (if u = 233 then (pure (Value.tuple #[v, .bool true]) : Sem Value) else (do pure (Value.tuple #[← zeroValue 233, .bool false]))).run Try.prog w := by kernel_rfl
  rw [e]
  split
  · rfl
  · exact asz233 w
@[go_sem] theorem asn233 (xT : TypeId) (w : World) : (Instr.typeAssert .nilIface xT 233 true).run Try.prog w = .ok (.tuple #[.pointer none, .bool false]) w := by kernel_rfl
@[go_sem] theorem asf233 (v : Value) (xT : TypeId) (w : World) : (Instr.typeAssert (.iface 233 v) xT 233 false).run Try.prog w = .ok v w := by kernel_rfl
theorem asz235 (w : World) : (do pure (Value.tuple #[← zeroValue 235, .bool false]) : Sem Value).run Try.prog w = .ok (.tuple #[.pointer none, .bool false]) w := by kernel_rfl
@[go_sem] theorem as235 (u : TypeId) (v : Value) (xT : TypeId) (w : World) : (Instr.typeAssert (.iface u v) xT 235 true).run Try.prog w = .ok (if u = 235 then .tuple #[v, .bool true] else .tuple #[.pointer none, .bool false]) w := by
  have e : (Instr.typeAssert (.iface u v) xT 235 true).run Try.prog w = (if u = 235 then (pure (Value.tuple #[v, .bool true]) : Sem Value) else (do pure (Value.tuple #[← zeroValue 235, .bool false]))).run Try.prog w := by kernel_rfl
  rw [e]
  split
  · rfl
  · exact asz235 w
@[go_sem] theorem asn235 (xT : TypeId) (w : World) : (Instr.typeAssert .nilIface xT 235 true).run Try.prog w = .ok (.tuple #[.pointer none, .bool false]) w := by kernel_rfl
@[go_sem] theorem asf235 (v : Value) (xT : TypeId) (w : World) : (Instr.typeAssert (.iface 235 v) xT 235 false).run Try.prog w = .ok v w := by kernel_rfl
theorem asz238 (w : World) : (do pure (Value.tuple #[← zeroValue 238, .bool false]) : Sem Value).run Try.prog w = .ok (.tuple #[.pointer none, .bool false]) w := by kernel_rfl
@[go_sem] theorem as238 (u : TypeId) (v : Value) (xT : TypeId) (w : World) : (Instr.typeAssert (.iface u v) xT 238 true).run Try.prog w = .ok (if u = 238 then .tuple #[v, .bool true] else .tuple #[.pointer none, .bool false]) w := by
  have e : (Instr.typeAssert (.iface u v) xT 238 true).run Try.prog w = (if u = 238 then (pure (Value.tuple #[v, .bool true]) : Sem Value) else (do pure (Value.tuple #[← zeroValue 238, .bool false]))).run Try.prog w := by kernel_rfl
  rw [e]
  split
  · rfl
  · exact asz238 w
@[go_sem] theorem asn238 (xT : TypeId) (w : World) : (Instr.typeAssert .nilIface xT 238 true).run Try.prog w = .ok (.tuple #[.pointer none, .bool false]) w := by kernel_rfl
@[go_sem] theorem asf238 (v : Value) (xT : TypeId) (w : World) : (Instr.typeAssert (.iface 238 v) xT 238 false).run Try.prog w = .ok v w := by kernel_rfl
theorem asz243 (w : World) : (do pure (Value.tuple #[← zeroValue 243, .bool false]) : Sem Value).run Try.prog w = .ok (.tuple #[.pointer none, .bool false]) w := by kernel_rfl
@[go_sem] theorem as243 (u : TypeId) (v : Value) (xT : TypeId) (w : World) : (Instr.typeAssert (.iface u v) xT 243 true).run Try.prog w = .ok (if u = 243 then .tuple #[v, .bool true] else .tuple #[.pointer none, .bool false]) w := by
  have e : (Instr.typeAssert (.iface u v) xT 243 true).run Try.prog w = (if u = 243 then (pure (Value.tuple #[v, .bool true]) : Sem Value) else (do pure (Value.tuple #[← zeroValue 243, .bool false]))).run Try.prog w := by kernel_rfl
  rw [e]
  split
  · rfl
  · exact asz243 w
@[go_sem] theorem asn243 (xT : TypeId) (w : World) : (Instr.typeAssert .nilIface xT 243 true).run Try.prog w = .ok (.tuple #[.pointer none, .bool false]) w := by kernel_rfl
@[go_sem] theorem asf243 (v : Value) (xT : TypeId) (w : World) : (Instr.typeAssert (.iface 243 v) xT 243 false).run Try.prog w = .ok v w := by kernel_rfl

end Go.Proofs.Ytgefhkjidldjlab
