/-
  What asserting an interface value to a pointer type of this program answers: one law for each type.
-/
import Derived.Test.YtgefhkjidldjlacKit
namespace Go.Proofs.Ytgefhkjidldjlac

theorem asz53 (w : World) : (do pure (Value.tuple #[← zeroValue 53, .bool false]) : Sem Value).run Try.prog w = .ok (.tuple #[.pointer none, .bool false]) w := by kernel_rfl
@[go_sem] theorem as53 (u : TypeId) (v : Value) (xT : TypeId) (w : World) : (Instr.typeAssert (.iface u v) xT 53 true).run Try.prog w = .ok (if u = 53 then .tuple #[v, .bool true] else .tuple #[.pointer none, .bool false]) w := by
  have e : (Instr.typeAssert (.iface u v) xT 53 true).run Try.prog w = (if u = 53 then (pure (Value.tuple #[v, .bool true]) : Sem Value) else (do pure (Value.tuple #[← zeroValue 53, .bool false]))).run Try.prog w := by kernel_rfl
  rw [e]
  split
  · rfl
  · exact asz53 w
@[go_sem] theorem asn53 (xT : TypeId) (w : World) : (Instr.typeAssert .nilIface xT 53 true).run Try.prog w = .ok (.tuple #[.pointer none, .bool false]) w := by kernel_rfl
@[go_sem] theorem asf53 (v : Value) (xT : TypeId) (w : World) : (Instr.typeAssert (.iface 53 v) xT 53 false).run Try.prog w = .ok v w := by kernel_rfl
theorem asz57 (w : World) : (do pure (Value.tuple #[← zeroValue 57, .bool false]) : Sem Value).run Try.prog w = .ok (.tuple #[.pointer none, .bool false]) w := by kernel_rfl
@[go_sem] theorem as57 (u : TypeId) (v : Value) (xT : TypeId) (w : World) : (Instr.typeAssert (.iface u v) xT 57 true).run Try.prog w = .ok (if u = 57 then .tuple #[v, .bool true] else .tuple #[.pointer none, .bool false]) w := by
  have e : (Instr.typeAssert (.iface u v) xT 57 true).run Try.prog w = (if u = 57 then (pure (Value.tuple #[v, .bool true]) : Sem Value) else (do pure (Value.tuple #[← zeroValue 57, .bool false]))).run Try.prog w := by kernel_rfl
  rw [e]
  split
  · rfl
  · exact asz57 w
@[go_sem] theorem asn57 (xT : TypeId) (w : World) : (Instr.typeAssert .nilIface xT 57 true).run Try.prog w = .ok (.tuple #[.pointer none, .bool false]) w := by kernel_rfl
@[go_sem] theorem asf57 (v : Value) (xT : TypeId) (w : World) : (Instr.typeAssert (.iface 57 v) xT 57 false).run Try.prog w = .ok v w := by kernel_rfl
theorem asz61 (w : World) : (do pure (Value.tuple #[← zeroValue 61, .bool false]) : Sem Value).run Try.prog w = .ok (.tuple #[.pointer none, .bool false]) w := by kernel_rfl
@[go_sem] theorem as61 (u : TypeId) (v : Value) (xT : TypeId) (w : World) : (Instr.typeAssert (.iface u v) xT 61 true).run Try.prog w = .ok (if u = 61 then .tuple #[v, .bool true] else .tuple #[.pointer none, .bool false]) w := by
  have e : (Instr.typeAssert (.iface u v) xT 61 true).run Try.prog w = (if u = 61 then (pure (Value.tuple #[v, .bool true]) : Sem Value) else (do pure (Value.tuple #[← zeroValue 61, .bool false]))).run Try.prog w := by kernel_rfl
  rw [e]
  split
  · rfl
  · exact asz61 w
@[go_sem] theorem asn61 (xT : TypeId) (w : World) : (Instr.typeAssert .nilIface xT 61 true).run Try.prog w = .ok (.tuple #[.pointer none, .bool false]) w := by kernel_rfl
@[go_sem] theorem asf61 (v : Value) (xT : TypeId) (w : World) : (Instr.typeAssert (.iface 61 v) xT 61 false).run Try.prog w = .ok v w := by kernel_rfl
theorem asz75 (w : World) : (do pure (Value.tuple #[← zeroValue 75, .bool false]) : Sem Value).run Try.prog w = .ok (.tuple #[.pointer none, .bool false]) w := by kernel_rfl
@[go_sem] theorem as75 (u : TypeId) (v : Value) (xT : TypeId) (w : World) : (Instr.typeAssert (.iface u v) xT 75 true).run Try.prog w = .ok (if u = 75 then .tuple #[v, .bool true] else .tuple #[.pointer none, .bool false]) w := by
  have e : (Instr.typeAssert (.iface u v) xT 75 true).run Try.prog w = (if u = 75 then (pure (Value.tuple #[v, .bool true]) : Sem Value) else (do pure (Value.tuple #[← zeroValue 75, .bool false]))).run Try.prog w := by kernel_rfl
  rw [e]
  split
  · rfl
  · exact asz75 w
@[go_sem] theorem asn75 (xT : TypeId) (w : World) : (Instr.typeAssert .nilIface xT 75 true).run Try.prog w = .ok (.tuple #[.pointer none, .bool false]) w := by kernel_rfl
@[go_sem] theorem asf75 (v : Value) (xT : TypeId) (w : World) : (Instr.typeAssert (.iface 75 v) xT 75 false).run Try.prog w = .ok v w := by kernel_rfl
theorem asz87 (w : World) : (do pure (Value.tuple #[← zeroValue 87, .bool false]) : Sem Value).run Try.prog w = .ok (.tuple #[.pointer none, .bool false]) w := by kernel_rfl
@[go_sem] theorem as87 (u : TypeId) (v : Value) (xT : TypeId) (w : World) : (Instr.typeAssert (.iface u v) xT 87 true).run Try.prog w = .ok (if u = 87 then .tuple #[v, .bool true] else .tuple #[.pointer none, .bool false]) w := by
  have e : (Instr.typeAssert (.iface u v) xT 87 true).run Try.prog w = (if u = 87 then (pure (Value.tuple #[v, .bool true]) : Sem Value) else (do pure (Value.tuple #[← zeroValue 87, .bool false]))).run Try.prog w := by kernel_rfl
  rw [e]
  split
  · rfl
  · exact asz87 w
@[go_sem] theorem asn87 (xT : TypeId) (w : World) : (Instr.typeAssert .nilIface xT 87 true).run Try.prog w = .ok (.tuple #[.pointer none, .bool false]) w := by kernel_rfl
@[go_sem] theorem asf87 (v : Value) (xT : TypeId) (w : World) : (Instr.typeAssert (.iface 87 v) xT 87 false).run Try.prog w = .ok v w := by kernel_rfl
theorem asz102 (w : World) : (do pure (Value.tuple #[← zeroValue 102, .bool false]) : Sem Value).run Try.prog w = .ok (.tuple #[.pointer none, .bool false]) w := by kernel_rfl
@[go_sem] theorem as102 (u : TypeId) (v : Value) (xT : TypeId) (w : World) : (Instr.typeAssert (.iface u v) xT 102 true).run Try.prog w = .ok (if u = 102 then .tuple #[v, .bool true] else .tuple #[.pointer none, .bool false]) w := by
  have e : (Instr.typeAssert (.iface u v) xT 102 true).run Try.prog w = (if u = 102 then (pure (Value.tuple #[v, .bool true]) : Sem Value) else (do pure (Value.tuple #[← zeroValue 102, .bool false]))).run Try.prog w := by kernel_rfl
  rw [e]
  split
  · rfl
  · exact asz102 w
@[go_sem] theorem asn102 (xT : TypeId) (w : World) : (Instr.typeAssert .nilIface xT 102 true).run Try.prog w = .ok (.tuple #[.pointer none, .bool false]) w := by kernel_rfl
@[go_sem] theorem asf102 (v : Value) (xT : TypeId) (w : World) : (Instr.typeAssert (.iface 102 v) xT 102 false).run Try.prog w = .ok v w := by kernel_rfl
theorem asz105 (w : World) : (do pure (Value.tuple #[← zeroValue 105, .bool false]) : Sem Value).run Try.prog w = .ok (.tuple #[.pointer none, .bool false]) w := by kernel_rfl
@[go_sem] theorem as105 (u : TypeId) (v : Value) (xT : TypeId) (w : World) : (Instr.typeAssert (.iface u v) xT 105 true).run Try.prog w = .ok (if u = 105 then .tuple #[v, .bool true] else .tuple #[.pointer none, .bool false]) w := by
  have e : (Instr.typeAssert (.iface u v) xT 105 true).run Try.prog w = (if u = 105 then (pure (Value.tuple #[v, .bool true]) : Sem Value) else (do pure (Value.tuple #[← zeroValue 105, .bool false]))).run Try.prog w := by kernel_rfl
  rw [e]
  split
  · rfl
  · exact asz105 w
@[go_sem] theorem asn105 (xT : TypeId) (w : World) : (Instr.typeAssert .nilIface xT 105 true).run Try.prog w = .ok (.tuple #[.pointer none, .bool false]) w := by kernel_rfl
@[go_sem] theorem asf105 (v : Value) (xT : TypeId) (w : World) : (Instr.typeAssert (.iface 105 v) xT 105 false).run Try.prog w = .ok v w := by kernel_rfl
theorem asz108 (w : World) : (do pure (Value.tuple #[← zeroValue 108, .bool false]) : Sem Value).run Try.prog w = .ok (.tuple #[.pointer none, .bool false]) w := by kernel_rfl
@[go_sem] theorem as108 (u : TypeId) (v : Value) (xT : TypeId) (w : World) : (Instr.typeAssert (.iface u v) xT 108 true).run Try.prog w = .ok (if u = 108 then .tuple #[v, .bool true] else .tuple #[.pointer none, .bool false]) w := by
  have e : (Instr.typeAssert (.iface u v) xT 108 true).run Try.prog w = (if u = 108 then (pure (Value.tuple #[v, .bool true]) : Sem Value) else (do pure (Value.tuple #[← zeroValue 108, .bool false]))).run Try.prog w := by kernel_rfl
  rw [e]
  split
  · rfl
  · exact asz108 w
@[go_sem] theorem asn108 (xT : TypeId) (w : World) : (Instr.typeAssert .nilIface xT 108 true).run Try.prog w = .ok (.tuple #[.pointer none, .bool false]) w := by kernel_rfl
@[go_sem] theorem asf108 (v : Value) (xT : TypeId) (w : World) : (Instr.typeAssert (.iface 108 v) xT 108 false).run Try.prog w = .ok v w := by kernel_rfl
theorem asz110 (w : World) : (do pure (Value.tuple #[← zeroValue 110, .bool false]) : Sem Value).run Try.prog w = .ok (.tuple #[.pointer none, .bool false]) w := by kernel_rfl
@[go_sem] theorem as110 (u : TypeId) (v : Value) (xT : TypeId) (w : World) : (Instr.typeAssert (.iface u v) xT 110 true).run Try.prog w = .ok (if u = 110 then .tuple #[v, .bool true] else .tuple #[.pointer none, .bool false]) w := by
  have e : (Instr.typeAssert (.iface u v) xT 110 true).run Try.prog w = (if u = 110 then (pure (Value.tuple #[v, .bool true]) : Sem Value) else (do pure (Value.tuple #[← zeroValue 110, .bool false]))).run Try.prog w := by kernel_rfl
  rw [e]
  split
  · rfl
  · exact asz110 w
@[go_sem] theorem asn110 (xT : TypeId) (w : World) : (Instr.typeAssert .nilIface xT 110 true).run Try.prog w = .ok (.tuple #[.pointer none, .bool false]) w := by kernel_rfl
@[go_sem] theorem asf110 (v : Value) (xT : TypeId) (w : World) : (Instr.typeAssert (.iface 110 v) xT 110 false).run Try.prog w = .ok v w := by kernel_rfl
theorem asz113 (w : World) : (do pure (Value.tuple #[← zeroValue 113, .bool false]) : Sem Value).run Try.prog w = .ok (.tuple #[.pointer none, .bool false]) w := by kernel_rfl
@[go_sem] theorem as113 (u : TypeId) (v : Value) (xT : TypeId) (w : World) : (Instr.typeAssert (.iface u v) xT 113 true).run Try.prog w = .ok (if u = 113 then .tuple #[v, .bool true] else .tuple #[.pointer none, .bool false]) w := by
  have e : (Instr.typeAssert (.iface u v) xT 113 true).run Try.prog w = (if u = 113 then (pure (Value.tuple #[v, .bool true]) : Sem Value) else (do pure (Value.tuple #[← zeroValue 113, .bool false]))).run Try.prog w := by kernel_rfl
  rw [e]
  split
  · rfl
  · exact asz113 w
@[go_sem] theorem asn113 (xT : TypeId) (w : World) : (Instr.typeAssert .nilIface xT 113 true).run Try.prog w = .ok (.tuple #[.pointer none, .bool false]) w := by kernel_rfl
@[go_sem] theorem asf113 (v : Value) (xT : TypeId) (w : World) : (Instr.typeAssert (.iface 113 v) xT 113 false).run Try.prog w = .ok v w := by kernel_rfl
theorem asz117 (w : World) : (do pure (Value.tuple #[← zeroValue 117, .bool false]) : Sem Value).run Try.prog w = .ok (.tuple #[.pointer none, .bool false]) w := by kernel_rfl
@[go_sem] theorem as117 (u : TypeId) (v : Value) (xT : TypeId) (w : World) : (Instr.typeAssert (.iface u v) xT 117 true).run Try.prog w = .ok (if u = 117 then .tuple #[v, .bool true] else .tuple #[.pointer none, .bool false]) w := by
  have e : (Instr.typeAssert (.iface u v) xT 117 true).run Try.prog w = (if u = 117 then (pure (Value.tuple #[v, .bool true]) : Sem Value) else (do pure (Value.tuple #[← zeroValue 117, .bool false]))).run Try.prog w := by kernel_rfl
  rw [e]
  split
  · rfl
  · exact asz117 w
@[go_sem] theorem asn117 (xT : TypeId) (w : World) : (Instr.typeAssert .nilIface xT 117 true).run Try.prog w = .ok (.tuple #[.pointer none, .bool false]) w := by kernel_rfl
@[go_sem] theorem asf117 (v : Value) (xT : TypeId) (w : World) : (Instr.typeAssert (.iface 117 v) xT 117 false).run Try.prog w = .ok v w := by kernel_rfl
theorem asz120 (w : World) : (do pure (Value.tuple #[← zeroValue 120, .bool false]) : Sem Value).run Try.prog w = .ok (.tuple #[.pointer none, .bool false]) w := by kernel_rfl
@[go_sem] theorem as120 (u : TypeId) (v : Value) (xT : TypeId) (w : World) : (Instr.typeAssert (.iface u v) xT 120 true).run Try.prog w = .ok (if u = 120 then .tuple #[v, .bool true] else .tuple #[.pointer none, .bool false]) w := by
  have e : (Instr.typeAssert (.iface u v) xT 120 true).run Try.prog w = (if u = 120 then (pure (Value.tuple #[v, .bool true]) : Sem Value) else (do pure (Value.tuple #[← zeroValue 120, .bool false]))).run Try.prog w := by kernel_rfl
  rw [e]
  split
  · rfl
  · exact asz120 w
@[go_sem] theorem asn120 (xT : TypeId) (w : World) : (Instr.typeAssert .nilIface xT 120 true).run Try.prog w = .ok (.tuple #[.pointer none, .bool false]) w := by kernel_rfl
@[go_sem] theorem asf120 (v : Value) (xT : TypeId) (w : World) : (Instr.typeAssert (.iface 120 v) xT 120 false).run Try.prog w = .ok v w := by kernel_rfl
theorem asz244 (w : World) : (do pure (Value.tuple #[← zeroValue 244, .bool false]) : Sem Value).run Try.prog w = .ok (.tuple #[.pointer none, .bool false]) w := by kernel_rfl
@[go_sem] theorem as244 (u : TypeId) (v : Value) (xT : TypeId) (w : World) : (Instr.typeAssert (.iface u v) xT 244 true).run Try.prog w = .ok (if u = 244 then .tuple #[v, .bool true] else .tuple #[.pointer none, .bool false]) w := by
  have e : (Instr.typeAssert (.iface u v) xT 244 true).run Try.prog w = (if u = 244 then (pure (Value.tuple #[v, .bool true]) : Sem Value) else (do pure (Value.tuple #[← zeroValue 244, .bool false]))).run Try.prog w := by kernel_rfl
  rw [e]
  split
  · rfl
  · exact asz244 w
@[go_sem] theorem asn244 (xT : TypeId) (w : World) : (Instr.typeAssert .nilIface xT 244 true).run Try.prog w = .ok (.tuple #[.pointer none, .bool false]) w := by kernel_rfl
@[go_sem] theorem asf244 (v : Value) (xT : TypeId) (w : World) : (Instr.typeAssert (.iface 244 v) xT 244 false).run Try.prog w = .ok v w := by kernel_rfl
theorem asz247 (w : World) : (do pure (Value.tuple #[← zeroValue 247, .bool false]) : Sem Value).run Try.prog w = .ok (.tuple #[.pointer none, .bool false]) w := by kernel_rfl
@[go_sem] theorem as247 (u : TypeId) (v : Value) (xT : TypeId) (w : World) : (Instr.typeAssert (.iface u v) xT 247 true).run Try.prog w = .ok (if u = 247 then .tuple #[v, .bool true] else .tuple #[.pointer none, .bool false]) w := by
  have e : (Instr.typeAssert (.iface u v) xT 247 true).run Try.prog w = (if u = 247 then (pure (Value.tuple #[v, .bool true]) : Sem Value) else (do pure (Value.tuple #[← zeroValue 247, .bool false]))).run Try.prog w := by kernel_rfl
  rw [e]
  split
  · rfl
  · exact asz247 w
@[go_sem] theorem asn247 (xT : TypeId) (w : World) : (Instr.typeAssert .nilIface xT 247 true).run Try.prog w = .ok (.tuple #[.pointer none, .bool false]) w := by kernel_rfl
@[go_sem] theorem asf247 (v : Value) (xT : TypeId) (w : World) : (Instr.typeAssert (.iface 247 v) xT 247 false).run Try.prog w = .ok v w := by kernel_rfl

end Go.Proofs.Ytgefhkjidldjlac
