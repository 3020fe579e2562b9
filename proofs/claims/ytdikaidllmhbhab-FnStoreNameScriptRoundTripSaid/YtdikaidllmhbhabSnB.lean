import Derived.Test.YtdikaidllmhbhabKit
import Derived.Test.YtdikaidllmhbhabSnA
namespace Go.Proofs.Ytdikaidllmhbhab.fnStoreNameScriptRoundTrip
open Go.ChangeShapes Go.WideShapes Go.ChangeAt Go.RowKit
set_option linter.unusedVariables false
set_option maxRecDepth 100000
set_option maxHeartbeats 2000000

theorem log12 (w : World) : Calls Try.prog 12 #[.int .u8 0, .map none] w fun e w' => (∃ l0 l1 l2 l3, e = .returned (.agg #[l0, l1, l2, l3, .int .i8 3, .map none])) ∧ Below w.heap.size w w' := by
  have z1 : w.heap.size + 1 < w.heap.size + 1 + 1 := by omega
  have z2 : w.heap.size + 1 < w.heap.size + 1 + 1 + 1 := by omega
  have z3 : w.heap.size + 1 < w.heap.size + 1 + 1 + 1 + 1 := by omega
  have hst := fun (f : Fn) (bs cs : Array Value) (A : Addr) (W : World) (m : Mode) => run_store Try.prog W A (.func f bs cs) m rfl
  go_enter Try.func12, Try.ntmps12
  go_wp2_with fail
  go_returns
  exact ⟨⟨_, _, _, _, rfl⟩, by go_grown⟩
def srcRow (ct : ByteArray) : Array Value := #[.string ⟨#[]⟩, .string ⟨#[]⟩, .string ⟨#[]⟩, .string ct, .string ⟨#[]⟩, .string ⟨#[]⟩, .string ⟨#[]⟩, .string ⟨#[]⟩, .int .u8 0, .int .u32 0]
theorem track13 (b : Nat) (ct : ByteArray) (w : World) (h : RowAt w b (srcRow ct) 47) : Calls Try.prog 13 #[.pointer (some ⟨b, 0, none⟩)] w fun e w' => (∃ t0 t1 t2 t3 t4 t5 t6 t7 t8 t9, e = .returned (.agg #[t0, t1, t2, t3, t4, t5, t6, t7, t8, t9])) ∧ Below w.heap.size w w' := by
  have c0 := h.cellv (j := 0) (v := .string ⟨#[]⟩) rfl
  have c1 := h.cellv (j := 1) (v := .string ⟨#[]⟩) rfl
  have c3 := h.cellv (j := 3) (v := .string ct) rfl
  have zb := h.lt
  have zb1 : b < w.heap.size + 1 := by omega
  clear h
  go_enter Try.func13, Try.ntmps13
  go_wp2_with fail
  go_region
  go_wp2_with fail
  go_returns
  exact ⟨⟨_, _, _, _, _, _, _, _, _, _, rfl⟩, by go_grown⟩

end Go.Proofs.Ytdikaidllmhbhab.fnStoreNameScriptRoundTrip
