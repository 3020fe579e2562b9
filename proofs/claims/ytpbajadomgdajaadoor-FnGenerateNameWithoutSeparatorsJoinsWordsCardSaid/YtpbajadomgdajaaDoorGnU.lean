import Derived.Test.YtpbajadomgdajaaDoorKit
import Derived.Test.YtpbajadomgdajaaDoorGnI
import Derived.Test.YtpbajadomgdajaaDoorRows
import Derived.Lib.LaidU8
import Derived.LaidMore
namespace Go.Proofs.YtpbajadomgdajaaDoor
open Go.ChangeShapes Go.WideShapes Go.ChangeAt Go.RowKit
set_option linter.unusedVariables false
set_option maxRecDepth 100000
set_option maxHeartbeats 2000000

open Go.Shelf Go.Lib
theorem first_eq : (Rows.laid_unicode_utf8_first : DataW Unit) = firstData := by kernel_rfl
theorem accept_eq : (Rows.laid_unicode_utf8_acceptRanges : DataW Unit) = acceptData := by kernel_rfl
theorem tabs_of (W : World) (hL : laidMet Tryd.prog Rows.fnGenerateNameWithoutSeparatorsJoinsWordsRow.laid W) : TB W.heap.size W := by
  have hU : Lib.Utf8Tabs 1 2 W :=
    utf8Tabs_of_reads (ρ := lays271_ren) { lays271 with } ⟨by kernel_rfl, by kernel_rfl, by kernel_rfl, by kernel_rfl, by kernel_rfl, by kernel_rfl, by kernel_rfl⟩ (first_eq ▸ Lib.laidMet.reads hL (.tail _ (.head _))) (accept_eq ▸ Lib.laidMet.reads hL (.head _))
  exact ⟨hU, cell_lt (hU.2 0 (by omega)).1⟩

end Go.Proofs.YtpbajadomgdajaaDoor
