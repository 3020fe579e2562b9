import Derived.Test.YtidicogmfpfibabFmtKit
import Derived.Test.YtidicogmfpfibabFmtMaD
import Derived.Test.YtidicogmfpfibabFmtRows
import Derived.Lib.LaidU8
import Derived.LaidMore
namespace Go.Proofs.YtidicogmfpfibabFmt
open Go.ChangeShapes Go.WideShapes Go.ChangeAt Go.RowKit
set_option linter.unusedVariables false
set_option maxRecDepth 100000
set_option maxHeartbeats 2000000

open Go.Shelf Go.Lib
theorem first_eq : (Rows.laid_unicode_utf8_first : DataW Unit) = firstData := by kernel_rfl
theorem accept_eq : (Rows.laid_unicode_utf8_acceptRanges : DataW Unit) = acceptData := by kernel_rfl
theorem tabs_of (W : World) (hL : laidMet Tryf.prog Rows.fnMarkAsyncFnLogsExactlyWhenRefusedRow.laid W) : TB W.heap.size W := by
  have hU : Lib.Utf8Tabs 0 1 W :=
    utf8Tabs_of_reads (ρ := lays197_ren) { lays197 with } ⟨by kernel_rfl, by kernel_rfl, by kernel_rfl, by kernel_rfl, by kernel_rfl, by kernel_rfl, by kernel_rfl⟩ (first_eq ▸ Lib.laidMet.reads hL (.tail _ (.head _))) (accept_eq ▸ Lib.laidMet.reads hL (.head _))
  exact ⟨hU, cell_lt (hU.2 0 (by omega)).1⟩

end Go.Proofs.YtidicogmfpfibabFmt
