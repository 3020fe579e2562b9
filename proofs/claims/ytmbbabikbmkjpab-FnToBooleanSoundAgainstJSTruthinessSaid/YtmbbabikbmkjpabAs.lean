/-
  What asserting an interface value to a pointer type of this program answers: one law for each type.
-/
import Derived.Test.YtmbbabikbmkjpabKit
namespace Go.Proofs.Ytmbbabikbmkjpab

theorem asz15 (w : World) : (do pure (Value.tuple #[← zeroValue 15, .bool false]) : Sem Value).run Try.prog w = .ok (.tuple #[.pointer none, .bool false]) w := by kernel_rfl
@[go_sem] theorem as15 (u : TypeId) (v : Value) (xT : TypeId) (w : World) : (Instr.typeAssert (.iface u v) xT 15 true).run Try.prog w = .ok (if u = 15 then .tuple #[v, .bool true] else .tuple #[.pointer none, .bool false]) w := by
  have e : (Instr.typeAssert (.iface u v) xT 15 true).run Try.prog w = (if u = 15 then (pure (Value.tuple #[v, .bool true]) : Sem Value) else (do pure (Value.tuple #[← zeroValue 15, .bool false]))).run Try.prog w := by kernel_rfl
  rw [e]
  split
  · rfl
  · exact asz15 w
@[go_sem] theorem asn15 (xT : TypeId) (w : World) : (Instr.typeAssert .nilIface xT 15 true).run Try.prog w = .ok (.tuple #[.pointer none, .bool false]) w := by kernel_rfl
@[go_sem] theorem asf15 (v : Value) (xT : TypeId) (w : World) : (Instr.typeAssert (.iface 15 v) xT 15 false).run Try.prog w = .ok v w := by kernel_rfl
theorem asz68 (w : World) : (do pure (Value.tuple #[← zeroValue 68, .bool false]) : Sem Value).run Try.prog w = .ok (.tuple #[.pointer none, .bool false]) w := by kernel_rfl
@[go_sem] theorem as68 (u : TypeId) (v : Value) (xT : TypeId) (w : World) : (Instr.typeAssert (.iface u v) xT 68 true).run Try.prog w = .ok (if u = 68 then .tuple #[v, .bool true] else .tuple #[.pointer none, .bool false]) w := by
  have e : (Instr.typeAssert (.iface u v) xT 68 true).run Try.prog w = (if u = 68 then (pure (Value.tuple #[v, .bool true]) : Sem Value) else (do pure (Value.tuple #[← zeroValue 68, .bool false]))).run Try.prog w := by kernel_rfl
  rw [e]
  split
  · rfl
  · exact asz68 w
@[go_sem] theorem asn68 (xT : TypeId) (w : World) : (Instr.typeAssert .nilIface xT 68 true).run Try.prog w = .ok (.tuple #[.pointer none, .bool false]) w := by kernel_rfl
@[go_sem] theorem asf68 (v : Value) (xT : TypeId) (w : World) : (Instr.typeAssert (.iface 68 v) xT 68 false).run Try.prog w = .ok v w := by kernel_rfl
theorem asz73 (w : World) : (do pure (Value.tuple #[← zeroValue 73, .bool false]) : Sem Value).run Try.prog w = .ok (.tuple #[.pointer none, .bool false]) w := by kernel_rfl
@[go_sem] theorem as73 (u : TypeId) (v : Value) (xT : TypeId) (w : World) : (Instr.typeAssert (.iface u v) xT 73 true).run Try.prog w = .ok (if u = 73 then .tuple #[v, .bool true] else .tuple #[.pointer none, .bool false]) w := by
  have e : (Instr.typeAssert (.iface u v) xT 73 true).run Try.prog w = (if u = 73 then (pure (Value.tuple #[v, .bool true]) : Sem Value) else (do pure (Value.tuple #[← zeroValue 73, .bool false]))).run Try.prog w := by kernel_rfl
  rw [e]
  split
  · rfl
  · exact asz73 w
@[go_sem] theorem asn73 (xT : TypeId) (w : World) : (Instr.typeAssert .nilIface xT 73 true).run Try.prog w = .ok (.tuple #[.pointer none, .bool false]) w := by kernel_rfl
@[go_sem] theorem asf73 (v : Value) (xT : TypeId) (w : World) : (Instr.typeAssert (.iface 73 v) xT 73 false).run Try.prog w = .ok v w := by kernel_rfl
theorem asz77 (w : World) : (do pure (Value.tuple #[← zeroValue 77, .bool false]) : Sem Value).run Try.prog w = .ok (.tuple #[.pointer none, .bool false]) w := by kernel_rfl
@[go_sem] theorem as77 (u : TypeId) (v : Value) (xT : TypeId) (w : World) : (Instr.typeAssert (.iface u v) xT 77 true).run Try.prog w = .ok (if u = 77 then .tuple #[v, .bool true] else .tuple #[.pointer none, .bool false]) w := by
  have e : (Instr.typeAssert (.iface u v) xT 77 true).run Try.prog w = (if u = 77 then (pure (Value.tuple #[v, .bool true]) : Sem Value) else (do pure (Value.tuple #[← zeroValue 77, .bool false]))).run Try.prog w := by kernel_rfl
  rw [e]
  split
  · rfl
  · exact asz77 w
@[go_sem] theorem asn77 (xT : TypeId) (w : World) : (Instr.typeAssert .nilIface xT 77 true).run Try.prog w = .ok (.tuple #[.pointer none, .bool false]) w := by kernel_rfl
@[go_sem] theorem asf77 (v : Value) (xT : TypeId) (w : World) : (Instr.typeAssert (.iface 77 v) xT 77 false).run Try.prog w = .ok v w := by kernel_rfl
theorem asz81 (w : World) : (do pure (Value.tuple #[← zeroValue 81, .bool false]) : Sem Value).run Try.prog w = .ok (.tuple #[.pointer none, .bool false]) w := by kernel_rfl
@[go_sem] theorem as81 (u : TypeId) (v : Value) (xT : TypeId) (w : World) : (Instr.typeAssert (.iface u v) xT 81 true).run Try.prog w = .ok (if u = 81 then .tuple #[v, .bool true] else .tuple #[.pointer none, .bool false]) w := by
  have e : (Instr.typeAssert (.iface u v) xT 81 true).run Try.prog w = (if u = 81 then (pure (Value.tuple #[v, .bool true]) : Sem Value) else (do pure (Value.tuple #[← zeroValue 81, .bool false]))).run Try.prog w := by kernel_rfl
  rw [e]
  split
  · rfl
  · exact asz81 w
@[go_sem] theorem asn81 (xT : TypeId) (w : World) : (Instr.typeAssert .nilIface xT 81 true).run Try.prog w = .ok (.tuple #[.pointer none, .bool false]) w := by kernel_rfl
@[go_sem] theorem asf81 (v : Value) (xT : TypeId) (w : World) : (Instr.typeAssert (.iface 81 v) xT 81 false).run Try.prog w = .ok v w := by kernel_rfl
theorem asz89 (w : World) : (do pure (Value.tuple #[← zeroValue 89, .bool false]) : Sem Value).run Try.prog w = .ok (.tuple #[.pointer none, .bool false]) w := by kernel_rfl
@[go_sem] theorem as89 (u : TypeId) (v : Value) (xT : TypeId) (w : World) : (Instr.typeAssert (.iface u v) xT 89 true).run Try.prog w = .ok (if u = 89 then .tuple #[v, .bool true] else .tuple #[.pointer none, .bool false]) w := by
  have e : (Instr.typeAssert (.iface u v) xT 89 true).run Try.prog w = (if u = 89 then (pure (Value.tuple #[v, .bool true]) : Sem Value) else (do pure (Value.tuple #[← zeroValue 89, .bool false]))).run Try.prog w := by kernel_rfl
  rw [e]
  split
  · rfl
  · exact asz89 w
@[go_sem] theorem asn89 (xT : TypeId) (w : World) : (Instr.typeAssert .nilIface xT 89 true).run Try.prog w = .ok (.tuple #[.pointer none, .bool false]) w := by kernel_rfl
@[go_sem] theorem asf89 (v : Value) (xT : TypeId) (w : World) : (Instr.typeAssert (.iface 89 v) xT 89 false).run Try.prog w = .ok v w := by kernel_rfl
theorem asz90 (w : World) : (do pure (Value.tuple #[← zeroValue 90, .bool false]) : Sem Value).run Try.prog w = .ok (.tuple #[.pointer none, .bool false]) w := by kernel_rfl
@[go_sem] theorem as90 (u : TypeId) (v : Value) (xT : TypeId) (w : World) : (Instr.typeAssert (.iface u v) xT 90 true).run Try.prog w = .ok (if u = 90 then .tuple #[v, .bool true] else .tuple #[.pointer none, .bool false]) w := by
  have e : (Instr.typeAssert (.iface u v) xT 90 true).run Try.prog w = (if u = 90 then (pure (Value.tuple #[v, .bool true]) : Sem Value) else (do pure (Value.tuple #[← zeroValue 90, .bool false]))).run Try.prog w := by kernel_rfl
  rw [e]
  split
  · rfl
  · exact asz90 w
@[go_sem] theorem asn90 (xT : TypeId) (w : World) : (Instr.typeAssert .nilIface xT 90 true).run Try.prog w = .ok (.tuple #[.pointer none, .bool false]) w := by kernel_rfl
@[go_sem] theorem asf90 (v : Value) (xT : TypeId) (w : World) : (Instr.typeAssert (.iface 90 v) xT 90 false).run Try.prog w = .ok v w := by kernel_rfl
theorem asz91 (w : World) : (do pure (Value.tuple #[← zeroValue 91, .bool false]) : Sem Value).run Try.prog w = .ok (.tuple #[.pointer none, .bool false]) w := by kernel_rfl
@[go_sem] theorem as91 (u : TypeId) (v : Value) (xT : TypeId) (w : World) : (Instr.typeAssert (.iface u v) xT 91 true).run Try.prog w = .ok (if u = 91 then .tuple #[v, .bool true] else .tuple #[.pointer none, .bool false]) w := by
  have e : (Instr.typeAssert (.iface u v) xT 91 true).run Try.prog w = (if u = 91 then (pure (Value.tuple #[v, .bool true]) : Sem Value) else (do pure (Value.tuple #[← zeroValue 91, .bool false]))).run Try.prog w := by kernel_rfl
  rw [e]
  split
  · rfl
  · exact asz91 w
@[go_sem] theorem asn91 (xT : TypeId) (w : World) : (Instr.typeAssert .nilIface xT 91 true).run Try.prog w = .ok (.tuple #[.pointer none, .bool false]) w := by kernel_rfl
@[go_sem] theorem asf91 (v : Value) (xT : TypeId) (w : World) : (Instr.typeAssert (.iface 91 v) xT 91 false).run Try.prog w = .ok v w := by kernel_rfl
theorem asz94 (w : World) : (do pure (Value.tuple #[← zeroValue 94, .bool false]) : Sem Value).run Try.prog w = .ok (.tuple #[.pointer none, .bool false]) w := by kernel_rfl
@[go_sem] theorem as94 (u : TypeId) (v : Value) (xT : TypeId) (w : World) : (Instr.typeAssert (.iface u v) xT 94 true).run Try.prog w = .ok (if u = 94 then .tuple #[v, .bool true] else .tuple #[.pointer none, .bool false]) w := by
  have e : (Instr.typeAssert (.iface u v) xT 94 true).run Try.prog w = (if u = 94 then (pure (Value.tuple #[v, .bool true]) : Sem Value) else (do pure (Value.tuple #[← zeroValue 94, .bool false]))).run Try.prog w := by kernel_rfl
  rw [e]
  split
  · rfl
  · exact asz94 w
@[go_sem] theorem asn94 (xT : TypeId) (w : World) : (Instr.typeAssert .nilIface xT 94 true).run Try.prog w = .ok (.tuple #[.pointer none, .bool false]) w := by kernel_rfl
@[go_sem] theorem asf94 (v : Value) (xT : TypeId) (w : World) : (Instr.typeAssert (.iface 94 v) xT 94 false).run Try.prog w = .ok v w := by kernel_rfl
theorem asz98 (w : World) : (do pure (Value.tuple #[← zeroValue 98, .bool false]) : Sem Value).run Try.prog w = .ok (.tuple #[.pointer none, .bool false]) w := by kernel_rfl
@[go_sem] theorem as98 (u : TypeId) (v : Value) (xT : TypeId) (w : World) : (Instr.typeAssert (.iface u v) xT 98 true).run Try.prog w = .ok (if u = 98 then .tuple #[v, .bool true] else .tuple #[.pointer none, .bool false]) w := by
  have e : (Instr.typeAssert (.iface u v) xT 98 true).run Try.prog w = (if u = 98 then (pure (Value.tuple #[v, .bool true]) : Sem Value) else (do pure (Value.tuple #[← zeroValue 98, .bool false]))).run Try.prog w := by kernel_rfl
  rw [e]
  split
  · rfl
  · exact asz98 w
@[go_sem] theorem asn98 (xT : TypeId) (w : World) : (Instr.typeAssert .nilIface xT 98 true).run Try.prog w = .ok (.tuple #[.pointer none, .bool false]) w := by kernel_rfl
@[go_sem] theorem asf98 (v : Value) (xT : TypeId) (w : World) : (Instr.typeAssert (.iface 98 v) xT 98 false).run Try.prog w = .ok v w := by kernel_rfl
theorem asz103 (w : World) : (do pure (Value.tuple #[← zeroValue 103, .bool false]) : Sem Value).run Try.prog w = .ok (.tuple #[.pointer none, .bool false]) w := by kernel_rfl
@[go_sem] theorem as103 (u : TypeId) (v : Value) (xT : TypeId) (w : World) : (Instr.typeAssert (.iface u v) xT 103 true).run Try.prog w = .ok (if u = 103 then .tuple #[v, .bool true] else .tuple #[.pointer none, .bool false]) w := by
  have e : (Instr.typeAssert (.iface u v) xT 103 true).run Try.prog w = (if u = 103 then (pure (Value.tuple #[v, .bool true]) : Sem Value) else (do pure (Value.tuple #[← zeroValue 103, .bool false]))).run Try.prog w := by kernel_rfl
  rw [e]
  split
  · rfl
  · exact asz103 w
@[go_sem] theorem asn103 (xT : TypeId) (w : World) : (Instr.typeAssert .nilIface xT 103 true).run Try.prog w = .ok (.tuple #[.pointer none, .bool false]) w := by kernel_rfl
@[go_sem] theorem asf103 (v : Value) (xT : TypeId) (w : World) : (Instr.typeAssert (.iface 103 v) xT 103 false).run Try.prog w = .ok v w := by kernel_rfl
theorem asz107 (w : World) : (do pure (Value.tuple #[← zeroValue 107, .bool false]) : Sem Value).run Try.prog w = .ok (.tuple #[.pointer none, .bool false]) w := by kernel_rfl
@[go_sem] theorem as107 (u : TypeId) (v : Value) (xT : TypeId) (w : World) : (Instr.typeAssert (.iface u v) xT 107 true).run Try.prog w = .ok (if u = 107 then .tuple #[v, .bool true] else .tuple #[.pointer none, .bool false]) w := by
  have e : (Instr.typeAssert (.iface u v) xT 107 true).run Try.prog w = (if u = 107 then (pure (Value.tuple #[v, .bool true]) : Sem Value) else (do pure (Value.tuple #[← zeroValue 107, .bool false]))).run Try.prog w := by kernel_rfl
  rw [e]
  split
  · rfl
  · exact asz107 w
@[go_sem] theorem asn107 (xT : TypeId) (w : World) : (Instr.typeAssert .nilIface xT 107 true).run Try.prog w = .ok (.tuple #[.pointer none, .bool false]) w := by kernel_rfl
@[go_sem] theorem asf107 (v : Value) (xT : TypeId) (w : World) : (Instr.typeAssert (.iface 107 v) xT 107 false).run Try.prog w = .ok v w := by kernel_rfl
theorem asz108 (w : World) : (do pure (Value.tuple #[← zeroValue 108, .bool false]) : Sem Value).run Try.prog w = .ok (.tuple #[.pointer none, .bool false]) w := by kernel_rfl
@[go_sem] theorem as108 (u : TypeId) (v : Value) (xT : TypeId) (w : World) : (Instr.typeAssert (.iface u v) xT 108 true).run Try.prog w = .ok (if u = 108 then .tuple #[v, .bool true] else .tuple #[.pointer none, .bool false]) w := by
  have e : (Instr.typeAssert (.iface u v) xT 108 true).run Try.prog w = (if u = 108 then (pure (Value.tuple #[v, .bool true]) : Sem Value) else (do pure (Value.tuple #[← zeroValue 108, .bool false]))).run Try.prog w := by kernel_rfl
  rw [e]
  split
  · rfl
  · exact asz108 w
@[go_sem] theorem asn108 (xT : TypeId) (w : World) : (Instr.typeAssert .nilIface xT 108 true).run Try.prog w = .ok (.tuple #[.pointer none, .bool false]) w := by kernel_rfl
@[go_sem] theorem asf108 (v : Value) (xT : TypeId) (w : World) : (Instr.typeAssert (.iface 108 v) xT 108 false).run Try.prog w = .ok v w := by kernel_rfl
theorem asz109 (w : World) : (do pure (Value.tuple #[← zeroValue 109, .bool false]) : Sem Value).run Try.prog w = .ok (.tuple #[.pointer none, .bool false]) w := by kernel_rfl
@[go_sem] theorem as109 (u : TypeId) (v : Value) (xT : TypeId) (w : World) : (Instr.typeAssert (.iface u v) xT 109 true).run Try.prog w = .ok (if u = 109 then .tuple #[v, .bool true] else .tuple #[.pointer none, .bool false]) w := by
  have e : (Instr.typeAssert (.iface u v) xT 109 true).run Try.prog w = (if u = 109 then (pure (Value.tuple #[v, .bool true]) : Sem Value) else (do pure (Value.tuple #[← zeroValue 109, .bool false]))).run Try.prog w := by kernel_rfl
  rw [e]
  split
  · rfl
  · exact asz109 w
@[go_sem] theorem asn109 (xT : TypeId) (w : World) : (Instr.typeAssert .nilIface xT 109 true).run Try.prog w = .ok (.tuple #[.pointer none, .bool false]) w := by kernel_rfl
@[go_sem] theorem asf109 (v : Value) (xT : TypeId) (w : World) : (Instr.typeAssert (.iface 109 v) xT 109 false).run Try.prog w = .ok v w := by kernel_rfl
theorem asz110 (w : World) : (do pure (Value.tuple #[← zeroValue 110, .bool false]) : Sem Value).run Try.prog w = .ok (.tuple #[.pointer none, .bool false]) w := by kernel_rfl
@[go_sem] theorem as110 (u : TypeId) (v : Value) (xT : TypeId) (w : World) : (Instr.typeAssert (.iface u v) xT 110 true).run Try.prog w = .ok (if u = 110 then .tuple #[v, .bool true] else .tuple #[.pointer none, .bool false]) w := by
  have e : (Instr.typeAssert (.iface u v) xT 110 true).run Try.prog w = (if u = 110 then (pure (Value.tuple #[v, .bool true]) : Sem Value) else (do pure (Value.tuple #[← zeroValue 110, .bool false]))).run Try.prog w := by kernel_rfl
  rw [e]
  split
  · rfl
  · exact asz110 w
@[go_sem] theorem asn110 (xT : TypeId) (w : World) : (Instr.typeAssert .nilIface xT 110 true).run Try.prog w = .ok (.tuple #[.pointer none, .bool false]) w := by kernel_rfl
@[go_sem] theorem asf110 (v : Value) (xT : TypeId) (w : World) : (Instr.typeAssert (.iface 110 v) xT 110 false).run Try.prog w = .ok v w := by kernel_rfl
theorem asz111 (w : World) : (do pure (Value.tuple #[← zeroValue 111, .bool false]) : Sem Value).run Try.prog w = .ok (.tuple #[.pointer none, .bool false]) w := by kernel_rfl
@[go_sem] theorem as111 (u : TypeId) (v : Value) (xT : TypeId) (w : World) : (Instr.typeAssert (.iface u v) xT 111 true).run Try.prog w = .ok (if u = 111 then .tuple #[v, .bool true] else .tuple #[.pointer none, .bool false]) w := by
  have e : (Instr.typeAssert (.iface u v) xT 111 true).run Try.prog w = (if u = 111 then (pure (Value.tuple #[v, .bool true]) : Sem Value) else (do pure (Value.tuple #[← zeroValue 111, .bool false]))).run Try.prog w := by kernel_rfl
  rw [e]
  split
  · rfl
  · exact asz111 w
@[go_sem] theorem asn111 (xT : TypeId) (w : World) : (Instr.typeAssert .nilIface xT 111 true).run Try.prog w = .ok (.tuple #[.pointer none, .bool false]) w := by kernel_rfl
@[go_sem] theorem asf111 (v : Value) (xT : TypeId) (w : World) : (Instr.typeAssert (.iface 111 v) xT 111 false).run Try.prog w = .ok v w := by kernel_rfl
theorem asz112 (w : World) : (do pure (Value.tuple #[← zeroValue 112, .bool false]) : Sem Value).run Try.prog w = .ok (.tuple #[.pointer none, .bool false]) w := by kernel_rfl
@[go_sem] theorem as112 (u : TypeId) (v : Value) (xT : TypeId) (w : World) : (Instr.typeAssert (.iface u v) xT 112 true).run Try.prog w = .ok (if u = 112 then .tuple #[v, .bool true] else .tuple #[.pointer none, .bool false]) w := by
  have e : (Instr.typeAssert (.iface u v) xT 112 true).run Try.prog w = (if u = 112 then (pure (Value.tuple #[v, .bool true]) : Sem Value) else (do pure (Value.tuple #[← zeroValue 112, .bool false]))).run Try.prog w := by kernel_rfl
  rw [e]
  split
  · rfl
  · exact asz112 w
@[go_sem] theorem asn112 (xT : TypeId) (w : World) : (Instr.typeAssert .nilIface xT 112 true).run Try.prog w = .ok (.tuple #[.pointer none, .bool false]) w := by kernel_rfl
@[go_sem] theorem asf112 (v : Value) (xT : TypeId) (w : World) : (Instr.typeAssert (.iface 112 v) xT 112 false).run Try.prog w = .ok v w := by kernel_rfl

end Go.Proofs.Ytmbbabikbmkjpab
