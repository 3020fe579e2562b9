/-
  What asserting an interface value to a pointer type of this program answers: one law for each type.
-/
import Derived.Test.YtpehladamabedaaKit
namespace Go.Proofs.Ytpehladamabedaa

theorem asz15 (w : World) : (do pure (Value.tuple #[← zeroValue 15, .bool false]) : Sem Value).run Try.prog w = .ok (.tuple #[.pointer none, .bool false]) w := by kernel_rfl
@[go_sem] theorem as15 (u : TypeId) (v : Value) (xT : TypeId) (w : World) : (Instr.typeAssert (.iface u v) xT 15 true).run Try.prog w = .ok (if u = 15 then .tuple #[v, .bool true] else .tuple #[.pointer none, .bool false]) w := by
  have e : (Instr.typeAssert (.iface u v) xT 15 true).run Try.prog w = (if u = 15 then (pure (Value.tuple #[v, .bool true]) : Sem Value) else (do pure (Value.tuple #[← zeroValue 15, .bool false]))).run Try.prog w := by kernel_rfl
  rw [e]
  split
  · rfl
  · exact asz15 w
@[go_sem] theorem asn15 (xT : TypeId) (w : World) : (Instr.typeAssert .nilIface xT 15 true).run Try.prog w = .ok (.tuple #[.pointer none, .bool false]) w := by kernel_rfl
@[go_sem] theorem asf15 (v : Value) (xT : TypeId) (w : World) : (Instr.typeAssert (.iface 15 v) xT 15 false).run Try.prog w = .ok v w := by kernel_rfl
theorem asz16 (w : World) : (do pure (Value.tuple #[← zeroValue 16, .bool false]) : Sem Value).run Try.prog w = .ok (.tuple #[.pointer none, .bool false]) w := by kernel_rfl
@[go_sem] theorem as16 (u : TypeId) (v : Value) (xT : TypeId) (w : World) : (Instr.typeAssert (.iface u v) xT 16 true).run Try.prog w = .ok (if u = 16 then .tuple #[v, .bool true] else .tuple #[.pointer none, .bool false]) w := by
  have e : (Instr.typeAssert (.iface u v) xT 16 true).run Try.prog w = (if u = 16 then (pure (Value.tuple #[v, .bool true]) : Sem Value) else (do pure (Value.tuple #[← zeroValue 16, .bool false]))).run Try.prog w := by kernel_rfl
  rw [e]
  split
  · rfl
  · exact asz16 w
@[go_sem] theorem asn16 (xT : TypeId) (w : World) : (Instr.typeAssert .nilIface xT 16 true).run Try.prog w = .ok (.tuple #[.pointer none, .bool false]) w := by kernel_rfl
@[go_sem] theorem asf16 (v : Value) (xT : TypeId) (w : World) : (Instr.typeAssert (.iface 16 v) xT 16 false).run Try.prog w = .ok v w := by kernel_rfl
theorem asz17 (w : World) : (do pure (Value.tuple #[← zeroValue 17, .bool false]) : Sem Value).run Try.prog w = .ok (.tuple #[.pointer none, .bool false]) w := by kernel_rfl
@[go_sem] theorem as17 (u : TypeId) (v : Value) (xT : TypeId) (w : World) : (Instr.typeAssert (.iface u v) xT 17 true).run Try.prog w = .ok (if u = 17 then .tuple #[v, .bool true] else .tuple #[.pointer none, .bool false]) w := by
  have e : (Instr.typeAssert (.iface u v) xT 17 true).run Try.prog w = (if u = 17 then (pure (Value.tuple #[v, .bool true]) : Sem Value) else (do pure (Value.tuple #[← zeroValue 17, .bool false]))).run Try.prog w := by kernel_rfl
  rw [e]
  split
  · rfl
  · exact asz17 w
@[go_sem] theorem asn17 (xT : TypeId) (w : World) : (Instr.typeAssert .nilIface xT 17 true).run Try.prog w = .ok (.tuple #[.pointer none, .bool false]) w := by kernel_rfl
@[go_sem] theorem asf17 (v : Value) (xT : TypeId) (w : World) : (Instr.typeAssert (.iface 17 v) xT 17 false).run Try.prog w = .ok v w := by kernel_rfl
theorem asz23 (w : World) : (do pure (Value.tuple #[← zeroValue 23, .bool false]) : Sem Value).run Try.prog w = .ok (.tuple #[.pointer none, .bool false]) w := by kernel_rfl
@[go_sem] theorem as23 (u : TypeId) (v : Value) (xT : TypeId) (w : World) : (Instr.typeAssert (.iface u v) xT 23 true).run Try.prog w = .ok (if u = 23 then .tuple #[v, .bool true] else .tuple #[.pointer none, .bool false]) w := by
  have e : (Instr.typeAssert (.iface u v) xT 23 true).run Try.prog w = (if u = 23 then (pure (Value.tuple #[v, .bool true]) : Sem Value) else (do pure (Value.tuple #[← zeroValue 23, .bool false]))).run Try.prog w := by kernel_rfl
  rw [e]
  split
  · rfl
  · exact asz23 w
@[go_sem] theorem asn23 (xT : TypeId) (w : World) : (Instr.typeAssert .nilIface xT 23 true).run Try.prog w = .ok (.tuple #[.pointer none, .bool false]) w := by kernel_rfl
@[go_sem] theorem asf23 (v : Value) (xT : TypeId) (w : World) : (Instr.typeAssert (.iface 23 v) xT 23 false).run Try.prog w = .ok v w := by kernel_rfl
theorem asz28 (w : World) : (do pure (Value.tuple #[← zeroValue 28, .bool false]) : Sem Value).run Try.prog w = .ok (.tuple #[.pointer none, .bool false]) w := by kernel_rfl
@[go_sem] theorem as28 (u : TypeId) (v : Value) (xT : TypeId) (w : World) : (Instr.typeAssert (.iface u v) xT 28 true).run Try.prog w = .ok (if u = 28 then .tuple #[v, .bool true] else .tuple #[.pointer none, .bool false]) w := by
  have e : (Instr.typeAssert (.iface u v) xT 28 true).run Try.prog w = (if u = 28 then (pure (Value.tuple #[v, .bool true]) : Sem Value) else (do pure (Value.tuple #[← zeroValue 28, .bool false]))).run Try.prog w := by kernel_rfl
  rw [e]
  split
  · rfl
  · exact asz28 w
@[go_sem] theorem asn28 (xT : TypeId) (w : World) : (Instr.typeAssert .nilIface xT 28 true).run Try.prog w = .ok (.tuple #[.pointer none, .bool false]) w := by kernel_rfl
@[go_sem] theorem asf28 (v : Value) (xT : TypeId) (w : World) : (Instr.typeAssert (.iface 28 v) xT 28 false).run Try.prog w = .ok v w := by kernel_rfl
theorem asz40 (w : World) : (do pure (Value.tuple #[← zeroValue 40, .bool false]) : Sem Value).run Try.prog w = .ok (.tuple #[.pointer none, .bool false]) w := by kernel_rfl
@[go_sem] theorem as40 (u : TypeId) (v : Value) (xT : TypeId) (w : World) : (Instr.typeAssert (.iface u v) xT 40 true).run Try.prog w = .ok (if u = 40 then .tuple #[v, .bool true] else .tuple #[.pointer none, .bool false]) w := by
  have e : (Instr.typeAssert (.iface u v) xT 40 true).run Try.prog w = (if u = 40 then (pure (Value.tuple #[v, .bool true]) : Sem Value) else (do pure (Value.tuple #[← zeroValue 40, .bool false]))).run Try.prog w := by kernel_rfl
  rw [e]
  split
  · rfl
  · exact asz40 w
@[go_sem] theorem asn40 (xT : TypeId) (w : World) : (Instr.typeAssert .nilIface xT 40 true).run Try.prog w = .ok (.tuple #[.pointer none, .bool false]) w := by kernel_rfl
@[go_sem] theorem asf40 (v : Value) (xT : TypeId) (w : World) : (Instr.typeAssert (.iface 40 v) xT 40 false).run Try.prog w = .ok v w := by kernel_rfl
theorem asz97 (w : World) : (do pure (Value.tuple #[← zeroValue 97, .bool false]) : Sem Value).run Try.prog w = .ok (.tuple #[.pointer none, .bool false]) w := by kernel_rfl
@[go_sem] theorem as97 (u : TypeId) (v : Value) (xT : TypeId) (w : World) : (Instr.typeAssert (.iface u v) xT 97 true).run Try.prog w = .ok (if u = 97 then .tuple #[v, .bool true] else .tuple #[.pointer none, .bool false]) w := by
  have e : (Instr.typeAssert (.iface u v) xT 97 true).run Try.prog w = (if u = 97 then (pure (Value.tuple #[v, .bool true]) : Sem Value) else (do pure (Value.tuple #[← zeroValue 97, .bool false]))).run Try.prog w := by kernel_rfl
  rw [e]
  split
  · rfl
  · exact asz97 w
@[go_sem] theorem asn97 (xT : TypeId) (w : World) : (Instr.typeAssert .nilIface xT 97 true).run Try.prog w = .ok (.tuple #[.pointer none, .bool false]) w := by kernel_rfl
@[go_sem] theorem asf97 (v : Value) (xT : TypeId) (w : World) : (Instr.typeAssert (.iface 97 v) xT 97 false).run Try.prog w = .ok v w := by kernel_rfl
theorem asz102 (w : World) : (do pure (Value.tuple #[← zeroValue 102, .bool false]) : Sem Value).run Try.prog w = .ok (.tuple #[.pointer none, .bool false]) w := by kernel_rfl
@[go_sem] theorem as102 (u : TypeId) (v : Value) (xT : TypeId) (w : World) : (Instr.typeAssert (.iface u v) xT 102 true).run Try.prog w = .ok (if u = 102 then .tuple #[v, .bool true] else .tuple #[.pointer none, .bool false]) w := by
  have e : (Instr.typeAssert (.iface u v) xT 102 true).run Try.prog w = (if u = 102 then (pure (Value.tuple #[v, .bool true]) : Sem Value) else (do pure (Value.tuple #[← zeroValue 102, .bool false]))).run Try.prog w := by kernel_rfl
  rw [e]
  split
  · rfl
  · exact asz102 w
@[go_sem] theorem asn102 (xT : TypeId) (w : World) : (Instr.typeAssert .nilIface xT 102 true).run Try.prog w = .ok (.tuple #[.pointer none, .bool false]) w := by kernel_rfl
@[go_sem] theorem asf102 (v : Value) (xT : TypeId) (w : World) : (Instr.typeAssert (.iface 102 v) xT 102 false).run Try.prog w = .ok v w := by kernel_rfl
theorem asz106 (w : World) : (do pure (Value.tuple #[← zeroValue 106, .bool false]) : Sem Value).run Try.prog w = .ok (.tuple #[.pointer none, .bool false]) w := by kernel_rfl
@[go_sem] theorem as106 (u : TypeId) (v : Value) (xT : TypeId) (w : World) : (Instr.typeAssert (.iface u v) xT 106 true).run Try.prog w = .ok (if u = 106 then .tuple #[v, .bool true] else .tuple #[.pointer none, .bool false]) w := by
  have e : (Instr.typeAssert (.iface u v) xT 106 true).run Try.prog w = (if u = 106 then (pure (Value.tuple #[v, .bool true]) : Sem Value) else (do pure (Value.tuple #[← zeroValue 106, .bool false]))).run Try.prog w := by kernel_rfl
  rw [e]
  split
  · rfl
  · exact asz106 w
@[go_sem] theorem asn106 (xT : TypeId) (w : World) : (Instr.typeAssert .nilIface xT 106 true).run Try.prog w = .ok (.tuple #[.pointer none, .bool false]) w := by kernel_rfl
@[go_sem] theorem asf106 (v : Value) (xT : TypeId) (w : World) : (Instr.typeAssert (.iface 106 v) xT 106 false).run Try.prog w = .ok v w := by kernel_rfl
theorem asz111 (w : World) : (do pure (Value.tuple #[← zeroValue 111, .bool false]) : Sem Value).run Try.prog w = .ok (.tuple #[.pointer none, .bool false]) w := by kernel_rfl
@[go_sem] theorem as111 (u : TypeId) (v : Value) (xT : TypeId) (w : World) : (Instr.typeAssert (.iface u v) xT 111 true).run Try.prog w = .ok (if u = 111 then .tuple #[v, .bool true] else .tuple #[.pointer none, .bool false]) w := by
  have e : (Instr.typeAssert (.iface u v) xT 111 true).run Try.prog w = (if u = 111 then (pure (Value.tuple #[v, .bool true]) : Sem Value) else (do pure (Value.tuple #[← zeroValue 111, .bool false]))).run Try.prog w := by kernel_rfl
  rw [e]
  split
  · rfl
  · exact asz111 w
@[go_sem] theorem asn111 (xT : TypeId) (w : World) : (Instr.typeAssert .nilIface xT 111 true).run Try.prog w = .ok (.tuple #[.pointer none, .bool false]) w := by kernel_rfl
@[go_sem] theorem asf111 (v : Value) (xT : TypeId) (w : World) : (Instr.typeAssert (.iface 111 v) xT 111 false).run Try.prog w = .ok v w := by kernel_rfl
theorem asz121 (w : World) : (do pure (Value.tuple #[← zeroValue 121, .bool false]) : Sem Value).run Try.prog w = .ok (.tuple #[.pointer none, .bool false]) w := by kernel_rfl
@[go_sem] theorem as121 (u : TypeId) (v : Value) (xT : TypeId) (w : World) : (Instr.typeAssert (.iface u v) xT 121 true).run Try.prog w = .ok (if u = 121 then .tuple #[v, .bool true] else .tuple #[.pointer none, .bool false]) w := by
  have e : (Instr.typeAssert (.iface u v) xT 121 true).run Try.prog w = (if u = 121 then (pure (Value.tuple #[v, .bool true]) : Sem Value) else (do pure (Value.tuple #[← zeroValue 121, .bool false]))).run Try.prog w := by kernel_rfl
  rw [e]
  split
  · rfl
  · exact asz121 w
@[go_sem] theorem asn121 (xT : TypeId) (w : World) : (Instr.typeAssert .nilIface xT 121 true).run Try.prog w = .ok (.tuple #[.pointer none, .bool false]) w := by kernel_rfl
@[go_sem] theorem asf121 (v : Value) (xT : TypeId) (w : World) : (Instr.typeAssert (.iface 121 v) xT 121 false).run Try.prog w = .ok v w := by kernel_rfl
theorem asz145 (w : World) : (do pure (Value.tuple #[← zeroValue 145, .bool false]) : Sem Value).run Try.prog w = .ok (.tuple #[.pointer none, .bool false]) w := by kernel_rfl
@[go_sem] theorem as145 (u : TypeId) (v : Value) (xT : TypeId) (w : World) : (Instr.typeAssert (.iface u v) xT 145 true).run Try.prog w = .ok (if u = 145 then .tuple #[v, .bool true] else .tuple #[.pointer none, .bool false]) w := by
  have e : (Instr.typeAssert (.iface u v) xT 145 true).run Try.prog w = (if u = 145 then (pure (Value.tuple #[v, .bool true]) : Sem Value) else (do pure (Value.tuple #[← zeroValue 145, .bool false]))).run Try.prog w := by kernel_rfl
  rw [e]
  split
  · rfl
  · exact asz145 w
@[go_sem] theorem asn145 (xT : TypeId) (w : World) : (Instr.typeAssert .nilIface xT 145 true).run Try.prog w = .ok (.tuple #[.pointer none, .bool false]) w := by kernel_rfl
@[go_sem] theorem asf145 (v : Value) (xT : TypeId) (w : World) : (Instr.typeAssert (.iface 145 v) xT 145 false).run Try.prog w = .ok v w := by kernel_rfl
theorem asz149 (w : World) : (do pure (Value.tuple #[← zeroValue 149, .bool false]) : Sem Value).run Try.prog w = .ok (.tuple #[.pointer none, .bool false]) w := by kernel_rfl
@[go_sem] theorem as149 (u : TypeId) (v : Value) (xT : TypeId) (w : World) : (Instr.typeAssert (.iface u v) xT 149 true).run Try.prog w = .ok (if u = 149 then .tuple #[v, .bool true] else .tuple #[.pointer none, .bool false]) w := by
  have e : (Instr.typeAssert (.iface u v) xT 149 true).run Try.prog w = (if u = 149 then (pure (Value.tuple #[v, .bool true]) : Sem Value) else (do pure (Value.tuple #[← zeroValue 149, .bool false]))).run Try.prog w := by kernel_rfl
  rw [e]
  split
  · rfl
  · exact asz149 w
@[go_sem] theorem asn149 (xT : TypeId) (w : World) : (Instr.typeAssert .nilIface xT 149 true).run Try.prog w = .ok (.tuple #[.pointer none, .bool false]) w := by kernel_rfl
@[go_sem] theorem asf149 (v : Value) (xT : TypeId) (w : World) : (Instr.typeAssert (.iface 149 v) xT 149 false).run Try.prog w = .ok v w := by kernel_rfl
theorem asz152 (w : World) : (do pure (Value.tuple #[← zeroValue 152, .bool false]) : Sem Value).run Try.prog w = .ok (.tuple #[.pointer none, .bool false]) w := by kernel_rfl
@[go_sem] theorem as152 (u : TypeId) (v : Value) (xT : TypeId) (w : World) : (Instr.typeAssert (.iface u v) xT 152 true).run Try.prog w = .ok (if u = 152 then .tuple #[v, .bool true] else .tuple #[.pointer none, .bool false]) w := by
  have e : (Instr.typeAssert (.iface u v) xT 152 true).run Try.prog w = (if u = 152 then (pure (Value.tuple #[v, .bool true]) : Sem Value) else (do pure (Value.tuple #[← zeroValue 152, .bool false]))).run Try.prog w := by kernel_rfl
  rw [e]
  split
  · rfl
  · exact asz152 w
@[go_sem] theorem asn152 (xT : TypeId) (w : World) : (Instr.typeAssert .nilIface xT 152 true).run Try.prog w = .ok (.tuple #[.pointer none, .bool false]) w := by kernel_rfl
@[go_sem] theorem asf152 (v : Value) (xT : TypeId) (w : World) : (Instr.typeAssert (.iface 152 v) xT 152 false).run Try.prog w = .ok v w := by kernel_rfl
theorem asz154 (w : World) : (do pure (Value.tuple #[← zeroValue 154, .bool false]) : Sem Value).run Try.prog w = .ok (.tuple #[.pointer none, .bool false]) w := by kernel_rfl
@[go_sem] theorem as154 (u : TypeId) (v : Value) (xT : TypeId) (w : World) : (Instr.typeAssert (.iface u v) xT 154 true).run Try.prog w = .ok (if u = 154 then .tuple #[v, .bool true] else .tuple #[.pointer none, .bool false]) w := by
  have e : (Instr.typeAssert (.iface u v) xT 154 true).run Try.prog w = (if u = 154 then (pure (Value.tuple #[v, .bool true]) : Sem Value) else (do pure (Value.tuple #[← zeroValue 154, .bool false]))).run Try.prog w := by kernel_rfl
  rw [e]
  split
  · rfl
  · exact asz154 w
@[go_sem] theorem asn154 (xT : TypeId) (w : World) : (Instr.typeAssert .nilIface xT 154 true).run Try.prog w = .ok (.tuple #[.pointer none, .bool false]) w := by kernel_rfl
@[go_sem] theorem asf154 (v : Value) (xT : TypeId) (w : World) : (Instr.typeAssert (.iface 154 v) xT 154 false).run Try.prog w = .ok v w := by kernel_rfl
theorem asz158 (w : World) : (do pure (Value.tuple #[← zeroValue 158, .bool false]) : Sem Value).run Try.prog w = .ok (.tuple #[.pointer none, .bool false]) w := by kernel_rfl
@[go_sem] theorem as158 (u : TypeId) (v : Value) (xT : TypeId) (w : World) : (Instr.typeAssert (.iface u v) xT 158 true).run Try.prog w = .ok (if u = 158 then .tuple #[v, .bool true] else .tuple #[.pointer none, .bool false]) w := by
  have e : (Instr.typeAssert (.iface u v) xT 158 true).run Try.prog w = (if u = 158 then (pure (Value.tuple #[v, .bool true]) : Sem Value) else (do pure (Value.tuple #[← zeroValue 158, .bool false]))).run Try.prog w := by kernel_rfl
  rw [e]
  split
  · rfl
  · exact asz158 w
@[go_sem] theorem asn158 (xT : TypeId) (w : World) : (Instr.typeAssert .nilIface xT 158 true).run Try.prog w = .ok (.tuple #[.pointer none, .bool false]) w := by kernel_rfl
@[go_sem] theorem asf158 (v : Value) (xT : TypeId) (w : World) : (Instr.typeAssert (.iface 158 v) xT 158 false).run Try.prog w = .ok v w := by kernel_rfl
theorem asz285 (w : World) : (do pure (Value.tuple #[← zeroValue 285, .bool false]) : Sem Value).run Try.prog w = .ok (.tuple #[.pointer none, .bool false]) w := by kernel_rfl
@[go_sem] theorem as285 (u : TypeId) (v : Value) (xT : TypeId) (w : World) : (Instr.typeAssert (.iface u v) xT 285 true).run Try.prog w = .ok (if u = 285 then .tuple #[v, .bool true] else .tuple #[.pointer none, .bool false]) w := by
  have e : (Instr.typeAssert (.iface u v) xT 285 true).run Try.prog w = (if u = 285 then (pure (Value.tuple #[v, .bool true]) : Sem Value) else (do pure (Value.tuple #[← zeroValue 285, .bool false]))).run Try.prog w := by kernel_rfl
  rw [e]
  split
  · rfl
  · exact asz285 w
@[go_sem] theorem asn285 (xT : TypeId) (w : World) : (Instr.typeAssert .nilIface xT 285 true).run Try.prog w = .ok (.tuple #[.pointer none, .bool false]) w := by kernel_rfl
@[go_sem] theorem asf285 (v : Value) (xT : TypeId) (w : World) : (Instr.typeAssert (.iface 285 v) xT 285 false).run Try.prog w = .ok v w := by kernel_rfl
theorem asz292 (w : World) : (do pure (Value.tuple #[← zeroValue 292, .bool false]) : Sem Value).run Try.prog w = .ok (.tuple #[.pointer none, .bool false]) w := by kernel_rfl
@[go_sem] theorem as292 (u : TypeId) (v : Value) (xT : TypeId) (w : World) : (Instr.typeAssert (.iface u v) xT 292 true).run Try.prog w = .ok (if u = 292 then .tuple #[v, .bool true] else .tuple #[.pointer none, .bool false]) w := by
  have e : (Instr.typeAssert (.iface u v) xT 292 true).run Try.prog w = (if u = 292 then (pure (Value.tuple #[v, .bool true]) : Sem Value) else (do pure (Value.tuple #[← zeroValue 292, .bool false]))).run Try.prog w := by kernel_rfl
  rw [e]
  split
  · rfl
  · exact asz292 w
@[go_sem] theorem asn292 (xT : TypeId) (w : World) : (Instr.typeAssert .nilIface xT 292 true).run Try.prog w = .ok (.tuple #[.pointer none, .bool false]) w := by kernel_rfl
@[go_sem] theorem asf292 (v : Value) (xT : TypeId) (w : World) : (Instr.typeAssert (.iface 292 v) xT 292 false).run Try.prog w = .ok v w := by kernel_rfl
theorem asz296 (w : World) : (do pure (Value.tuple #[← zeroValue 296, .bool false]) : Sem Value).run Try.prog w = .ok (.tuple #[.pointer none, .bool false]) w := by kernel_rfl
@[go_sem] theorem as296 (u : TypeId) (v : Value) (xT : TypeId) (w : World) : (Instr.typeAssert (.iface u v) xT 296 true).run Try.prog w = .ok (if u = 296 then .tuple #[v, .bool true] else .tuple #[.pointer none, .bool false]) w := by
  have e : (Instr.typeAssert (.iface u v) xT 296 true).run Try.prog w = (if u = 296 then (pure (Value.tuple #[v, .bool true]) : Sem Value) else (do pure (Value.tuple #[← zeroValue 296, .bool false]))).run Try.prog w := by kernel_rfl
  rw [e]
  split
  · rfl
  · exact asz296 w
@[go_sem] theorem asn296 (xT : TypeId) (w : World) : (Instr.typeAssert .nilIface xT 296 true).run Try.prog w = .ok (.tuple #[.pointer none, .bool false]) w := by kernel_rfl
@[go_sem] theorem asf296 (v : Value) (xT : TypeId) (w : World) : (Instr.typeAssert (.iface 296 v) xT 296 false).run Try.prog w = .ok v w := by kernel_rfl
theorem asz301 (w : World) : (do pure (Value.tuple #[← zeroValue 301, .bool false]) : Sem Value).run Try.prog w = .ok (.tuple #[.pointer none, .bool false]) w := by kernel_rfl
@[go_sem] theorem as301 (u : TypeId) (v : Value) (xT : TypeId) (w : World) : (Instr.typeAssert (.iface u v) xT 301 true).run Try.prog w = .ok (if u = 301 then .tuple #[v, .bool true] else .tuple #[.pointer none, .bool false]) w := by
  have e : (Instr.typeAssert (.iface u v) xT 301 true).run Try.prog w = (if u = 301 then (pure (Value.tuple #[v, .bool true]) : Sem Value) else (do pure (Value.tuple #[← zeroValue 301, .bool false]))).run Try.prog w := by kernel_rfl
  rw [e]
  split
  · rfl
  · exact asz301 w
@[go_sem] theorem asn301 (xT : TypeId) (w : World) : (Instr.typeAssert .nilIface xT 301 true).run Try.prog w = .ok (.tuple #[.pointer none, .bool false]) w := by kernel_rfl
@[go_sem] theorem asf301 (v : Value) (xT : TypeId) (w : World) : (Instr.typeAssert (.iface 301 v) xT 301 false).run Try.prog w = .ok v w := by kernel_rfl
theorem asz305 (w : World) : (do pure (Value.tuple #[← zeroValue 305, .bool false]) : Sem Value).run Try.prog w = .ok (.tuple #[.pointer none, .bool false]) w := by kernel_rfl
@[go_sem] theorem as305 (u : TypeId) (v : Value) (xT : TypeId) (w : World) : (Instr.typeAssert (.iface u v) xT 305 true).run Try.prog w = .ok (if u = 305 then .tuple #[v, .bool true] else .tuple #[.pointer none, .bool false]) w := by
  have e : (Instr.typeAssert (.iface u v) xT 305 true).run Try.prog w = (if u = 305 then (pure (Value.tuple #[v, .bool true]) : Sem Value) else (do pure (Value.tuple #[← zeroValue 305, .bool false]))).run Try.prog w := by kernel_rfl
  rw [e]
  split
  · rfl
  · exact asz305 w
@[go_sem] theorem asn305 (xT : TypeId) (w : World) : (Instr.typeAssert .nilIface xT 305 true).run Try.prog w = .ok (.tuple #[.pointer none, .bool false]) w := by kernel_rfl
@[go_sem] theorem asf305 (v : Value) (xT : TypeId) (w : World) : (Instr.typeAssert (.iface 305 v) xT 305 false).run Try.prog w = .ok v w := by kernel_rfl
theorem asz312 (w : World) : (do pure (Value.tuple #[← zeroValue 312, .bool false]) : Sem Value).run Try.prog w = .ok (.tuple #[.pointer none, .bool false]) w := by kernel_rfl
@[go_sem] theorem as312 (u : TypeId) (v : Value) (xT : TypeId) (w : World) : (Instr.typeAssert (.iface u v) xT 312 true).run Try.prog w = .ok (if u = 312 then .tuple #[v, .bool true] else .tuple #[.pointer none, .bool false]) w := by
  have e : (Instr.typeAssert (.iface u v) xT 312 true).run Try.prog w = (if u = 312 then (pure (Value.tuple #[v, .bool true]) : Sem Value) else (do pure (Value.tuple #[← zeroValue 312, .bool false]))).run Try.prog w := by kernel_rfl
  rw [e]
  split
  · rfl
  · exact asz312 w
@[go_sem] theorem asn312 (xT : TypeId) (w : World) : (Instr.typeAssert .nilIface xT 312 true).run Try.prog w = .ok (.tuple #[.pointer none, .bool false]) w := by kernel_rfl
@[go_sem] theorem asf312 (v : Value) (xT : TypeId) (w : World) : (Instr.typeAssert (.iface 312 v) xT 312 false).run Try.prog w = .ok v w := by kernel_rfl
theorem asz321 (w : World) : (do pure (Value.tuple #[← zeroValue 321, .bool false]) : Sem Value).run Try.prog w = .ok (.tuple #[.pointer none, .bool false]) w := by kernel_rfl
@[go_sem] theorem as321 (u : TypeId) (v : Value) (xT : TypeId) (w : World) : (Instr.typeAssert (.iface u v) xT 321 true).run Try.prog w = .ok (if u = 321 then .tuple #[v, .bool true] else .tuple #[.pointer none, .bool false]) w := by
  have e : (Instr.typeAssert (.iface u v) xT 321 true).run Try.prog w = (if u = 321 then (pure (Value.tuple #[v, .bool true]) : Sem Value) else (do pure (Value.tuple #[← zeroValue 321, .bool false]))).run Try.prog w := by kernel_rfl
  rw [e]
  split
  · rfl
  · exact asz321 w
@[go_sem] theorem asn321 (xT : TypeId) (w : World) : (Instr.typeAssert .nilIface xT 321 true).run Try.prog w = .ok (.tuple #[.pointer none, .bool false]) w := by kernel_rfl
@[go_sem] theorem asf321 (v : Value) (xT : TypeId) (w : World) : (Instr.typeAssert (.iface 321 v) xT 321 false).run Try.prog w = .ok v w := by kernel_rfl
theorem asz322 (w : World) : (do pure (Value.tuple #[← zeroValue 322, .bool false]) : Sem Value).run Try.prog w = .ok (.tuple #[.pointer none, .bool false]) w := by kernel_rfl
@[go_sem] theorem as322 (u : TypeId) (v : Value) (xT : TypeId) (w : World) : (Instr.typeAssert (.iface u v) xT 322 true).run Try.prog w = .ok (if u = 322 then .tuple #[v, .bool true] else .tuple #[.pointer none, .bool false]) w := by
  have e : (Instr.typeAssert (.iface u v) xT 322 true).run Try.prog w = (if u = 322 then (pure (Value.tuple #[v, .bool true]) : Sem Value) else (do pure (Value.tuple #[← zeroValue 322, .bool false]))).run Try.prog w := by kernel_rfl
  rw [e]
  split
  · rfl
  · exact asz322 w
@[go_sem] theorem asn322 (xT : TypeId) (w : World) : (Instr.typeAssert .nilIface xT 322 true).run Try.prog w = .ok (.tuple #[.pointer none, .bool false]) w := by kernel_rfl
@[go_sem] theorem asf322 (v : Value) (xT : TypeId) (w : World) : (Instr.typeAssert (.iface 322 v) xT 322 false).run Try.prog w = .ok v w := by kernel_rfl
theorem asz324 (w : World) : (do pure (Value.tuple #[← zeroValue 324, .bool false]) : Sem Value).run Try.prog w = .ok (.tuple #[.pointer none, .bool false]) w := by kernel_rfl
@[go_sem] theorem as324 (u : TypeId) (v : Value) (xT : TypeId) (w : World) : (Instr.typeAssert (.iface u v) xT 324 true).run Try.prog w = .ok (if u = 324 then .tuple #[v, .bool true] else .tuple #[.pointer none, .bool false]) w := by
  have e : (Instr.typeAssert (.iface u v) xT 324 true).run Try.prog w = (if u = 324 then (pure (Value.tuple #[v, .bool true]) : Sem Value) else (do pure (Value.tuple #[← zeroValue 324, .bool false]))).run Try.prog w := by kernel_rfl
  rw [e]
  split
  · rfl
  · exact asz324 w
@[go_sem] theorem asn324 (xT : TypeId) (w : World) : (Instr.typeAssert .nilIface xT 324 true).run Try.prog w = .ok (.tuple #[.pointer none, .bool false]) w := by kernel_rfl
@[go_sem] theorem asf324 (v : Value) (xT : TypeId) (w : World) : (Instr.typeAssert (.iface 324 v) xT 324 false).run Try.prog w = .ok v w := by kernel_rfl
theorem asz327 (w : World) : (do pure (Value.tuple #[← zeroValue 327, .bool false]) : Sem Value).run Try.prog w = .ok (.tuple #[.pointer none, .bool false]) w := by kernel_rfl
@[go_sem] theorem as327 (u : TypeId) (v : Value) (xT : TypeId) (w : World) : (Instr.typeAssert (.iface u v) xT 327 true).run Try.prog w = .ok (if u = 327 then .tuple #[v, .bool true] else .tuple #[.pointer none, .bool false]) w := by
  have e : (Instr.typeAssert (.iface u v) xT 327 true).run Try.prog w = (if u = 327 then (pure (Value.tuple #[v, .bool true]) : Sem Value) else (do pure (Value.tuple #[← zeroValue 327, .bool false]))).run Try.prog w := by kernel_rfl
  rw [e]
  split
  · rfl
  · exact asz327 w
@[go_sem] theorem asn327 (xT : TypeId) (w : World) : (Instr.typeAssert .nilIface xT 327 true).run Try.prog w = .ok (.tuple #[.pointer none, .bool false]) w := by kernel_rfl
@[go_sem] theorem asf327 (v : Value) (xT : TypeId) (w : World) : (Instr.typeAssert (.iface 327 v) xT 327 false).run Try.prog w = .ok v w := by kernel_rfl
theorem asz332 (w : World) : (do pure (Value.tuple #[← zeroValue 332, .bool false]) : Sem Value).run Try.prog w = .ok (.tuple #[.pointer none, .bool false]) w := by kernel_rfl
@[go_sem] theorem as332 (u : TypeId) (v : Value) (xT : TypeId) (w : World) : (Instr.typeAssert (.iface u v) xT 332 true).run Try.prog w = .ok (if u = 332 then .tuple #[v, .bool true] else .tuple #[.pointer none, .bool false]) w := by
  have e : (Instr.typeAssert (.iface u v) xT 332 true).run Try.prog w = (if u = 332 then (pure (Value.tuple #[v, .bool true]) : Sem Value) else (do pure (Value.tuple #[← zeroValue 332, .bool false]))).run Try.prog w := by kernel_rfl
  rw [e]
  split
  · rfl
  · exact asz332 w
@[go_sem] theorem asn332 (xT : TypeId) (w : World) : (Instr.typeAssert .nilIface xT 332 true).run Try.prog w = .ok (.tuple #[.pointer none, .bool false]) w := by kernel_rfl
@[go_sem] theorem asf332 (v : Value) (xT : TypeId) (w : World) : (Instr.typeAssert (.iface 332 v) xT 332 false).run Try.prog w = .ok v w := by kernel_rfl

end Go.Proofs.Ytpehladamabedaa
