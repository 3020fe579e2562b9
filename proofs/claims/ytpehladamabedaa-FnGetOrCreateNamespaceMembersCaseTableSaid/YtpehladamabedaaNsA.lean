import Derived.Test.YtpehladamabedaaKit
import Derived.Test.YtpehladamabedaaMap
import Derived.Test.YtpehladamabedaaBig
import Derived.Test.YtpehladamabedaaAs
namespace Go.Proofs.Ytpehladamabedaa.fnGetOrCreateNamespaceMembersCaseTable
open Go.ChangeShapes Go.WideShapes Go.ChangeAt Go.RowKit
set_option linter.unusedVariables false
set_option maxRecDepth 100000
set_option maxHeartbeats 2000000

theorem zero119 (w : World) : (zeroValue 119).run Try.prog w = .ok (.agg #[.int .u32 0, .int .u32 0, .int .i32 0]) w := by kernel_rfl
theorem zero56 (w : World) : (zeroValue 56).run Try.prog w = .ok .nilIface w := by kernel_rfl
theorem zero58 (w : World) : (zeroValue 58).run Try.prog w = .ok (.agg #[.nilIface, .int .i32 0, .bool false]) w := by kernel_rfl
theorem keyS : KeysLike Try.prog 9 IsStr := keys_str Try.underlying9
theorem keyR : KeysLike Try.prog 38 IsPair := keys_pair Try.underlying38 Try.underlying22 Try.underlying22 (by decide +kernel) (by decide +kernel) rfl rfl (by kernel_rfl)

theorem build265 (a : Option Addr) (b : Option Nat) (w : World) : (Instr.build 265 #[(7, .pointer a), (29, .map b)]).run Try.prog w = .ok (.agg ((PZ265.setIfInBounds 104 (.pointer a)).setIfInBounds 158 (.map b))) w := by kernel_rfl

theorem parser_ (sc rd : Nat) (w : World) : Calls Try.prog 56 #[.pointer (some ⟨sc, 0, none⟩), .map (some rd)] w fun e w' => ∃ p, e = .returned (.pointer (some ⟨p, 0, none⟩)) ∧ w'.cell? ⟨p, 104, none⟩ = some (.pointer (some ⟨sc, 0, none⟩)) ∧ w'.cell? ⟨p, 158, none⟩ = some (.map (some rd)) ∧ Below w.heap.size w w' := by
  go_enter Try.func56, Try.ntmps56
  go_wp2_with (refine wpList_build rfl 265 _ rfl #[(7, .pointer (some ⟨sc, 0, none⟩)), (29, .map (some rd))] (by simp [Act.eval]) _ (build265 _ _ _) ?_)
  go_ret
  refine ⟨w.heap.size, rfl, ?_, ?_, by go_grown⟩
  · go_simp
  · go_simp

end Go.Proofs.Ytpehladamabedaa.fnGetOrCreateNamespaceMembersCaseTable
