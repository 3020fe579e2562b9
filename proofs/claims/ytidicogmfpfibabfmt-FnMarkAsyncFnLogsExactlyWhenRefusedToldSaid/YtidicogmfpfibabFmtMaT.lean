import Derived.Test.YtidicogmfpfibabFmtKit
import Derived.Test.YtidicogmfpfibabFmtMaB
import Derived.Test.YtidicogmfpfibabFmtScript
namespace Go.Proofs.YtidicogmfpfibabFmt
open Go.ChangeShapes Go.WideShapes Go.ChangeAt Go.RowKit
set_option linter.unusedVariables false
set_option maxRecDepth 100000
set_option maxHeartbeats 2000000

section
variable {P : Program} {w : World}
theorem run_sl {a : Act} {o : Oper} {T : TypeId} {x l h : Operand} {v lv hv r : Value} (ho : o.op = .slice T x (some l) (some h) none) (hx : a.eval x = v) (hl : a.eval l = lv) (hh : a.eval h = hv) (hr : (Instr.sliceAt T v (some lv) (some hv) none).run P w = .ok r w) : (execOp a.eval o).run P w = .ok (.value r) w := by
  unfold execOp
  rw [ho]
  simp only [Option.map_some, Option.map_none, hx, hl, hh, Sem.run_bind, hr, Result.andThen_ok, Sem.run_pure]
end
theorem slice_mid (s : ByteArray) (i j : Nat) (h : i ≤ j) (h2 : j ≤ s.size) (W : World) : (Instr.sliceAt 9 (.string s) (some (.int .i64 (i : Int))) (some (.int .i64 (j : Int))) none).run Tryf.prog W = .ok (.string (s.extract i j)) W := by
  have h3 : (j : Int) ≤ (s.size : Int) := by omega
  have h4 : (i : Int) ≤ (j : Int) := by omega
  simp [Instr.sliceAt, Instr.slice, run_underlying Tryf.underlying9, go_sem, h, h2, h3, h4]
theorem cv_test (l : Int) (W : World) : (convert 21 3 (.int .i32 l)).run Tryf.prog W = .ok (.int .i64 (IntKind.i64.wrap l)) W := by kernel_rfl

end Go.Proofs.YtidicogmfpfibabFmt
