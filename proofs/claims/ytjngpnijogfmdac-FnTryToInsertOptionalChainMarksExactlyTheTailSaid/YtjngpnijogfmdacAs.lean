/-
  What asserting an interface value to a pointer type of this program answers: one law for each type.
-/
import Derived.Test.YtjngpnijogfmdacKit
namespace Go.Proofs.Ytjngpnijogfmdac

theorem asz15 (w : World) : (do pure (Value.tuple #[← zeroValue 15, .bool false]) : Sem Value).run Try.prog w = .ok (.tuple #[.pointer none, .bool false]) w := by kernel_rfl
@[go_sem] theorem as15 (u : TypeId) (v : Value) (xT : TypeId) (w : World) : (Instr.typeAssert (.iface u v) xT 15 true).run Try.prog w = .ok (if u = 15 then .tuple #[v, .bool true] else .tuple #[.pointer none, .bool false]) w := by
  have e : (Instr.typeAssert (.iface u v) xT 15 true).run Try.prog w = (if u = 15 then (pure (Value.tuple #[v, .bool true]) : Sem Value) else (do pure (Value.tuple #[← zeroValue 15, .bool false]))).run Try.prog w := by kernel_rfl
  rw [e]
  split
  · rfl
  · exact asz15 w
@[go_sem] theorem asn15 (xT : TypeId) (w : World) : (Instr.typeAssert .nilIface xT 15 true).run Try.prog w = .ok (.tuple #[.pointer none, .bool false]) w := by kernel_rfl
@[go_sem] theorem asf15 (v : Value) (xT : TypeId) (w : World) : (Instr.typeAssert (.iface 15 v) xT 15 false).run Try.prog w = .ok v w := by kernel_rfl
theorem asz16 (w : World) : (do pure (Value.tuple #[← zeroValue 16, .bool false]) : Sem Value).run Try.prog w = .ok (.tuple #[.pointer none, .bool false]) w := by kernel_rfl
@[go_sem] theorem as16 (u : TypeId) (v : Value) (xT : TypeId) (w : World) : (Instr.typeAssert (.iface u v) xT 16 true).run Try.prog w = .ok (if u = 16 then .tuple #[v, .bool true] else .tuple #[.pointer none, .bool false]) w := by
  have e : (Instr.typeAssert (.iface u v) xT 16 true).run Try.prog w = (if u = 16 then (pure (Value.tuple #[v, .bool true]) : Sem Value) else (do pure (Value.tuple #[← zeroValue 16, .bool false]))).run Try.prog w := by kernel_rfl
  rw [e]
  split
  · rfl
  · exact asz16 w
@[go_sem] theorem asn16 (xT : TypeId) (w : World) : (Instr.typeAssert .nilIface xT 16 true).run Try.prog w = .ok (.tuple #[.pointer none, .bool false]) w := by kernel_rfl
@[go_sem] theorem asf16 (v : Value) (xT : TypeId) (w : World) : (Instr.typeAssert (.iface 16 v) xT 16 false).run Try.prog w = .ok v w := by kernel_rfl
theorem asz17 (w : World) : (do pure (Value.tuple #[← zeroValue 17, .bool false]) : Sem Value).run Try.prog w = .ok (.tuple #[.pointer none, .bool false]) w := by kernel_rfl
@[go_sem] theorem as17 (u : TypeId) (v : Value) (xT : TypeId) (w : World) : (Instr.typeAssert (.iface u v) xT 17 true).run Try.prog w = .ok (if u = 17 then .tuple #[v, .bool true] else .tuple #[.pointer none, .bool false]) w := by
  have e : (Instr.typeAssert (.iface u v) xT 17 true).run Try.prog w = (if u = 17 then (pure (Value.tuple #[v, .bool true]) : Sem Value) else (do pure (Value.tuple #[← zeroValue 17, .bool false]))).run Try.prog w := by kernel_rfl
  rw [e]
  split
  · rfl
  · exact asz17 w
@[go_sem] theorem asn17 (xT : TypeId) (w : World) : (Instr.typeAssert .nilIface xT 17 true).run Try.prog w = .ok (.tuple #[.pointer none, .bool false]) w := by kernel_rfl
@[go_sem] theorem asf17 (v : Value) (xT : TypeId) (w : World) : (Instr.typeAssert (.iface 17 v) xT 17 false).run Try.prog w = .ok v w := by kernel_rfl
theorem asz42 (w : World) : (do pure (Value.tuple #[← zeroValue 42, .bool false]) : Sem Value).run Try.prog w = .ok (.tuple #[.pointer none, .bool false]) w := by kernel_rfl
@[go_sem] theorem as42 (u : TypeId) (v : Value) (xT : TypeId) (w : World) : (Instr.typeAssert (.iface u v) xT 42 true).run Try.prog w = .ok (if u = 42 then .tuple #[v, .bool true] else .tuple #[.pointer none, .bool false]) w := by
  have e : (Instr.typeAssert (.iface u v) xT 42 true).run Try.prog w = (if u = 42 then (pure (Value.tuple #[v, .bool true]) : Sem Value) else (do pure (Value.tuple #[← zeroValue 42, .bool false]))).run Try.prog w := by kernel_rfl
  rw [e]
  split
  · rfl
  · exact asz42 w
@[go_sem] theorem asn42 (xT : TypeId) (w : World) : (Instr.typeAssert .nilIface xT 42 true).run Try.prog w = .ok (.tuple #[.pointer none, .bool false]) w := by kernel_rfl
@[go_sem] theorem asf42 (v : Value) (xT : TypeId) (w : World) : (Instr.typeAssert (.iface 42 v) xT 42 false).run Try.prog w = .ok v w := by kernel_rfl
theorem asz43 (w : World) : (do pure (Value.tuple #[← zeroValue 43, .bool false]) : Sem Value).run Try.prog w = .ok (.tuple #[.pointer none, .bool false]) w := by kernel_rfl
@[go_sem] theorem as43 (u : TypeId) (v : Value) (xT : TypeId) (w : World) : (Instr.typeAssert (.iface u v) xT 43 true).run Try.prog w = .ok (if u = 43 then .tuple #[v, .bool true] else .tuple #[.pointer none, .bool false]) w := by
  have e : (Instr.typeAssert (.iface u v) xT 43 true).run Try.prog w = (if u = 43 then (pure (Value.tuple #[v, .bool true]) : Sem Value) else (do pure (Value.tuple #[← zeroValue 43, .bool false]))).run Try.prog w := by kernel_rfl
  rw [e]
  split
  · rfl
  · exact asz43 w
@[go_sem] theorem asn43 (xT : TypeId) (w : World) : (Instr.typeAssert .nilIface xT 43 true).run Try.prog w = .ok (.tuple #[.pointer none, .bool false]) w := by kernel_rfl
@[go_sem] theorem asf43 (v : Value) (xT : TypeId) (w : World) : (Instr.typeAssert (.iface 43 v) xT 43 false).run Try.prog w = .ok v w := by kernel_rfl
theorem asz44 (w : World) : (do pure (Value.tuple #[← zeroValue 44, .bool false]) : Sem Value).run Try.prog w = .ok (.tuple #[.pointer none, .bool false]) w := by kernel_rfl
@[go_sem] theorem as44 (u : TypeId) (v : Value) (xT : TypeId) (w : World) : (Instr.typeAssert (.iface u v) xT 44 true).run Try.prog w = .ok (if u = 44 then .tuple #[v, .bool true] else .tuple #[.pointer none, .bool false]) w := by
  have e : (Instr.typeAssert (.iface u v) xT 44 true).run Try.prog w = (if u = 44 then (pure (Value.tuple #[v, .bool true]) : Sem Value) else (do pure (Value.tuple #[← zeroValue 44, .bool false]))).run Try.prog w := by kernel_rfl
  rw [e]
  split
  · rfl
  · exact asz44 w
@[go_sem] theorem asn44 (xT : TypeId) (w : World) : (Instr.typeAssert .nilIface xT 44 true).run Try.prog w = .ok (.tuple #[.pointer none, .bool false]) w := by kernel_rfl
@[go_sem] theorem asf44 (v : Value) (xT : TypeId) (w : World) : (Instr.typeAssert (.iface 44 v) xT 44 false).run Try.prog w = .ok v w := by kernel_rfl
theorem asz47 (w : World) : (do pure (Value.tuple #[← zeroValue 47, .bool false]) : Sem Value).run Try.prog w = .ok (.tuple #[.pointer none, .bool false]) w := by kernel_rfl
@[go_sem] theorem as47 (u : TypeId) (v : Value) (xT : TypeId) (w : World) : (Instr.typeAssert (.iface u v) xT 47 true).run Try.prog w = .ok (if u = 47 then .tuple #[v, .bool true] else .tuple #[.pointer none, .bool false]) w := by
  have e : (Instr.typeAssert (.iface u v) xT 47 true).run Try.prog w = (if u = 47 then (pure (Value.tuple #[v, .bool true]) : Sem Value) else (do pure (Value.tuple #[← zeroValue 47, .bool false]))).run Try.prog w := by kernel_rfl
  rw [e]
  split
  · rfl
  · exact asz47 w
@[go_sem] theorem asn47 (xT : TypeId) (w : World) : (Instr.typeAssert .nilIface xT 47 true).run Try.prog w = .ok (.tuple #[.pointer none, .bool false]) w := by kernel_rfl
@[go_sem] theorem asf47 (v : Value) (xT : TypeId) (w : World) : (Instr.typeAssert (.iface 47 v) xT 47 false).run Try.prog w = .ok v w := by kernel_rfl
theorem asz55 (w : World) : (do pure (Value.tuple #[← zeroValue 55, .bool false]) : Sem Value).run Try.prog w = .ok (.tuple #[.pointer none, .bool false]) w := by kernel_rfl
@[go_sem] theorem as55 (u : TypeId) (v : Value) (xT : TypeId) (w : World) : (Instr.typeAssert (.iface u v) xT 55 true).run Try.prog w = .ok (if u = 55 then .tuple #[v, .bool true] else .tuple #[.pointer none, .bool false]) w := by
  have e : (Instr.typeAssert (.iface u v) xT 55 true).run Try.prog w = (if u = 55 then (pure (Value.tuple #[v, .bool true]) : Sem Value) else (do pure (Value.tuple #[← zeroValue 55, .bool false]))).run Try.prog w := by kernel_rfl
  rw [e]
  split
  · rfl
  · exact asz55 w
@[go_sem] theorem asn55 (xT : TypeId) (w : World) : (Instr.typeAssert .nilIface xT 55 true).run Try.prog w = .ok (.tuple #[.pointer none, .bool false]) w := by kernel_rfl
@[go_sem] theorem asf55 (v : Value) (xT : TypeId) (w : World) : (Instr.typeAssert (.iface 55 v) xT 55 false).run Try.prog w = .ok v w := by kernel_rfl
theorem asz68 (w : World) : (do pure (Value.tuple #[← zeroValue 68, .bool false]) : Sem Value).run Try.prog w = .ok (.tuple #[.pointer none, .bool false]) w := by kernel_rfl
@[go_sem] theorem as68 (u : TypeId) (v : Value) (xT : TypeId) (w : World) : (Instr.typeAssert (.iface u v) xT 68 true).run Try.prog w = .ok (if u = 68 then .tuple #[v, .bool true] else .tuple #[.pointer none, .bool false]) w := by
  have e : (Instr.typeAssert (.iface u v) xT 68 true).run Try.prog w = (if u = 68 then (pure (Value.tuple #[v, .bool true]) : Sem Value) else (do pure (Value.tuple #[← zeroValue 68, .bool false]))).run Try.prog w := by kernel_rfl
  rw [e]
  split
  · rfl
  · exact asz68 w
@[go_sem] theorem asn68 (xT : TypeId) (w : World) : (Instr.typeAssert .nilIface xT 68 true).run Try.prog w = .ok (.tuple #[.pointer none, .bool false]) w := by kernel_rfl
@[go_sem] theorem asf68 (v : Value) (xT : TypeId) (w : World) : (Instr.typeAssert (.iface 68 v) xT 68 false).run Try.prog w = .ok v w := by kernel_rfl
theorem asz77 (w : World) : (do pure (Value.tuple #[← zeroValue 77, .bool false]) : Sem Value).run Try.prog w = .ok (.tuple #[.pointer none, .bool false]) w := by kernel_rfl
@[go_sem] theorem as77 (u : TypeId) (v : Value) (xT : TypeId) (w : World) : (Instr.typeAssert (.iface u v) xT 77 true).run Try.prog w = .ok (if u = 77 then .tuple #[v, .bool true] else .tuple #[.pointer none, .bool false]) w := by
  have e : (Instr.typeAssert (.iface u v) xT 77 true).run Try.prog w = (if u = 77 then (pure (Value.tuple #[v, .bool true]) : Sem Value) else (do pure (Value.tuple #[← zeroValue 77, .bool false]))).run Try.prog w := by kernel_rfl
  rw [e]
  split
  · rfl
  · exact asz77 w
@[go_sem] theorem asn77 (xT : TypeId) (w : World) : (Instr.typeAssert .nilIface xT 77 true).run Try.prog w = .ok (.tuple #[.pointer none, .bool false]) w := by kernel_rfl
@[go_sem] theorem asf77 (v : Value) (xT : TypeId) (w : World) : (Instr.typeAssert (.iface 77 v) xT 77 false).run Try.prog w = .ok v w := by kernel_rfl
theorem asz81 (w : World) : (do pure (Value.tuple #[← zeroValue 81, .bool false]) : Sem Value).run Try.prog w = .ok (.tuple #[.pointer none, .bool false]) w := by kernel_rfl
@[go_sem] theorem as81 (u : TypeId) (v : Value) (xT : TypeId) (w : World) : (Instr.typeAssert (.iface u v) xT 81 true).run Try.prog w = .ok (if u = 81 then .tuple #[v, .bool true] else .tuple #[.pointer none, .bool false]) w := by
  have e : (Instr.typeAssert (.iface u v) xT 81 true).run Try.prog w = (if u = 81 then (pure (Value.tuple #[v, .bool true]) : Sem Value) else (do pure (Value.tuple #[← zeroValue 81, .bool false]))).run Try.prog w := by kernel_rfl
  rw [e]
  split
  · rfl
  · exact asz81 w
@[go_sem] theorem asn81 (xT : TypeId) (w : World) : (Instr.typeAssert .nilIface xT 81 true).run Try.prog w = .ok (.tuple #[.pointer none, .bool false]) w := by kernel_rfl
@[go_sem] theorem asf81 (v : Value) (xT : TypeId) (w : World) : (Instr.typeAssert (.iface 81 v) xT 81 false).run Try.prog w = .ok v w := by kernel_rfl
theorem asz86 (w : World) : (do pure (Value.tuple #[← zeroValue 86, .bool false]) : Sem Value).run Try.prog w = .ok (.tuple #[.pointer none, .bool false]) w := by kernel_rfl
@[go_sem] theorem as86 (u : TypeId) (v : Value) (xT : TypeId) (w : World) : (Instr.typeAssert (.iface u v) xT 86 true).run Try.prog w = .ok (if u = 86 then .tuple #[v, .bool true] else .tuple #[.pointer none, .bool false]) w := by
  have e : (Instr.typeAssert (.iface u v) xT 86 true).run Try.prog w = (if u = 86 then (pure (Value.tuple #[v, .bool true]) : Sem Value) else (do pure (Value.tuple #[← zeroValue 86, .bool false]))).run Try.prog w := by kernel_rfl
  rw [e]
  split
  · rfl
  · exact asz86 w
@[go_sem] theorem asn86 (xT : TypeId) (w : World) : (Instr.typeAssert .nilIface xT 86 true).run Try.prog w = .ok (.tuple #[.pointer none, .bool false]) w := by kernel_rfl
@[go_sem] theorem asf86 (v : Value) (xT : TypeId) (w : World) : (Instr.typeAssert (.iface 86 v) xT 86 false).run Try.prog w = .ok v w := by kernel_rfl
theorem asz92 (w : World) : (do pure (Value.tuple #[← zeroValue 92, .bool false]) : Sem Value).run Try.prog w = .ok (.tuple #[.pointer none, .bool false]) w := by kernel_rfl
@[go_sem] theorem as92 (u : TypeId) (v : Value) (xT : TypeId) (w : World) : (Instr.typeAssert (.iface u v) xT 92 true).run Try.prog w = .ok (if u = 92 then .tuple #[v, .bool true] else .tuple #[.pointer none, .bool false]) w := by
  have e : (Instr.typeAssert (.iface u v) xT 92 true).run Try.prog w = (if u = 92 then (pure (Value.tuple #[v, .bool true]) : Sem Value) else (do pure (Value.tuple #[← zeroValue 92, .bool false]))).run Try.prog w := by kernel_rfl
  rw [e]
  split
  · rfl
  · exact asz92 w
@[go_sem] theorem asn92 (xT : TypeId) (w : World) : (Instr.typeAssert .nilIface xT 92 true).run Try.prog w = .ok (.tuple #[.pointer none, .bool false]) w := by kernel_rfl
@[go_sem] theorem asf92 (v : Value) (xT : TypeId) (w : World) : (Instr.typeAssert (.iface 92 v) xT 92 false).run Try.prog w = .ok v w := by kernel_rfl
theorem asz103 (w : World) : (do pure (Value.tuple #[← zeroValue 103, .bool false]) : Sem Value).run Try.prog w = .ok (.tuple #[.pointer none, .bool false]) w := by kernel_rfl
@[go_sem] theorem as103 (u : TypeId) (v : Value) (xT : TypeId) (w : World) : (Instr.typeAssert (.iface u v) xT 103 true).run Try.prog w = .ok (if u = 103 then .tuple #[v, .bool true] else .tuple #[.pointer none, .bool false]) w := by
  have e : (Instr.typeAssert (.iface u v) xT 103 true).run Try.prog w = (if u = 103 then (pure (Value.tuple #[v, .bool true]) : Sem Value) else (do pure (Value.tuple #[← zeroValue 103, .bool false]))).run Try.prog w := by kernel_rfl
  rw [e]
  split
  · rfl
  · exact asz103 w
@[go_sem] theorem asn103 (xT : TypeId) (w : World) : (Instr.typeAssert .nilIface xT 103 true).run Try.prog w = .ok (.tuple #[.pointer none, .bool false]) w := by kernel_rfl
@[go_sem] theorem asf103 (v : Value) (xT : TypeId) (w : World) : (Instr.typeAssert (.iface 103 v) xT 103 false).run Try.prog w = .ok v w := by kernel_rfl
theorem asz104 (w : World) : (do pure (Value.tuple #[← zeroValue 104, .bool false]) : Sem Value).run Try.prog w = .ok (.tuple #[.pointer none, .bool false]) w := by kernel_rfl
@[go_sem] theorem as104 (u : TypeId) (v : Value) (xT : TypeId) (w : World) : (Instr.typeAssert (.iface u v) xT 104 true).run Try.prog w = .ok (if u = 104 then .tuple #[v, .bool true] else .tuple #[.pointer none, .bool false]) w := by
  have e : (Instr.typeAssert (.iface u v) xT 104 true).run Try.prog w = (if u = 104 then (pure (Value.tuple #[v, .bool true]) : Sem Value) else (do pure (Value.tuple #[← zeroValue 104, .bool false]))).run Try.prog w := by kernel_rfl
  rw [e]
  split
  · rfl
  · exact asz104 w
@[go_sem] theorem asn104 (xT : TypeId) (w : World) : (Instr.typeAssert .nilIface xT 104 true).run Try.prog w = .ok (.tuple #[.pointer none, .bool false]) w := by kernel_rfl
@[go_sem] theorem asf104 (v : Value) (xT : TypeId) (w : World) : (Instr.typeAssert (.iface 104 v) xT 104 false).run Try.prog w = .ok v w := by kernel_rfl
theorem asz106 (w : World) : (do pure (Value.tuple #[← zeroValue 106, .bool false]) : Sem Value).run Try.prog w = .ok (.tuple #[.pointer none, .bool false]) w := by kernel_rfl
@[go_sem] theorem as106 (u : TypeId) (v : Value) (xT : TypeId) (w : World) : (Instr.typeAssert (.iface u v) xT 106 true).run Try.prog w = .ok (if u = 106 then .tuple #[v, .bool true] else .tuple #[.pointer none, .bool false]) w := by
  have e : (Instr.typeAssert (.iface u v) xT 106 true).run Try.prog w = (if u = 106 then (pure (Value.tuple #[v, .bool true]) : Sem Value) else (do pure (Value.tuple #[← zeroValue 106, .bool false]))).run Try.prog w := by kernel_rfl
  rw [e]
  split
  · rfl
  · exact asz106 w
@[go_sem] theorem asn106 (xT : TypeId) (w : World) : (Instr.typeAssert .nilIface xT 106 true).run Try.prog w = .ok (.tuple #[.pointer none, .bool false]) w := by kernel_rfl
@[go_sem] theorem asf106 (v : Value) (xT : TypeId) (w : World) : (Instr.typeAssert (.iface 106 v) xT 106 false).run Try.prog w = .ok v w := by kernel_rfl
theorem asz109 (w : World) : (do pure (Value.tuple #[← zeroValue 109, .bool false]) : Sem Value).run Try.prog w = .ok (.tuple #[.pointer none, .bool false]) w := by kernel_rfl
@[go_sem] theorem as109 (u : TypeId) (v : Value) (xT : TypeId) (w : World) : (Instr.typeAssert (.iface u v) xT 109 true).run Try.prog w = .ok (if u = 109 then .tuple #[v, .bool true] else .tuple #[.pointer none, .bool false]) w := by
  have e : (Instr.typeAssert (.iface u v) xT 109 true).run Try.prog w = (if u = 109 then (pure (Value.tuple #[v, .bool true]) : Sem Value) else (do pure (Value.tuple #[← zeroValue 109, .bool false]))).run Try.prog w := by kernel_rfl
  rw [e]
  split
  · rfl
  · exact asz109 w
@[go_sem] theorem asn109 (xT : TypeId) (w : World) : (Instr.typeAssert .nilIface xT 109 true).run Try.prog w = .ok (.tuple #[.pointer none, .bool false]) w := by kernel_rfl
@[go_sem] theorem asf109 (v : Value) (xT : TypeId) (w : World) : (Instr.typeAssert (.iface 109 v) xT 109 false).run Try.prog w = .ok v w := by kernel_rfl
theorem asz114 (w : World) : (do pure (Value.tuple #[← zeroValue 114, .bool false]) : Sem Value).run Try.prog w = .ok (.tuple #[.pointer none, .bool false]) w := by kernel_rfl
@[go_sem] theorem as114 (u : TypeId) (v : Value) (xT : TypeId) (w : World) : (Instr.typeAssert (.iface u v) xT 114 true).run Try.prog w = .ok (if u = 114 then .tuple #[v, .bool true] else .tuple #[.pointer none, .bool false]) w := by
  have e : (Instr.typeAssert (.iface u v) xT 114 true).run Try.prog w = (if u = 114 then (pure (Value.tuple #[v, .bool true]) : Sem Value) else (do pure (Value.tuple #[← zeroValue 114, .bool false]))).run Try.prog w := by kernel_rfl
  rw [e]
  split
  · rfl
  · exact asz114 w
@[go_sem] theorem asn114 (xT : TypeId) (w : World) : (Instr.typeAssert .nilIface xT 114 true).run Try.prog w = .ok (.tuple #[.pointer none, .bool false]) w := by kernel_rfl
@[go_sem] theorem asf114 (v : Value) (xT : TypeId) (w : World) : (Instr.typeAssert (.iface 114 v) xT 114 false).run Try.prog w = .ok v w := by kernel_rfl

end Go.Proofs.Ytjngpnijogfmdac
