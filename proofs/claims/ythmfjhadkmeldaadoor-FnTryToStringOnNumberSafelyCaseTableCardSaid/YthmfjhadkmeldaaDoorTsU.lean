import Derived.Test.YthmfjhadkmeldaaDoorKit
import Derived.Test.YthmfjhadkmeldaaDoorTsG
import Derived.Test.YthmfjhadkmeldaaDoorRows
import Derived.Lib.LaidU8
import Derived.LaidMore
import Derived.Lib.LaidTab
import Derived.Lib.TrailingZeros
namespace Go.Proofs.YthmfjhadkmeldaaDoor
open Go.ChangeShapes Go.WideShapes Go.ChangeAt Go.RowKit
set_option linter.unusedVariables false
set_option maxRecDepth 100000
set_option maxHeartbeats 2000000

open Go.Extern Go.Lib
theorem tab_of_reads {P : Program} {W : World} {name : String} {k : IntKind} {zs : List Int} {g : Nat} {t e : TypeId} {n : Nat}
    (hg : P.globalNamed name = some g) (hty : (P.globals[g]?).map (·.type) = some t) (ht : P.underlying t = some (.array n e)) (he : P.underlying e = some (.int k)) (hce : P.cellsOf e = 1) (hct : P.cellsOf t = n)
    (h : VarReads P W name (tabData k zs)) : TabIs P W name k zs := by
  obtain ⟨g', t', cs, fuel, p, hg', ht', hvar, hd⟩ := h
  obtain rfl := Option.some.inj (hg.symm.trans hg')
  obtain rfl := Option.some.inj (hty.symm.trans ht')
  unfold TabIs
  rw [hvar, ← cells_of_tab ht he hce hct hd]
def dbTab : List Int := deBruijn64tab.map Int.ofNat
theorem db_eq : (Rows.laid_math_bits_deBruijn64tab : DataW Unit) = tabData .u8 dbTab := by kernel_rfl
theorem pow_eq : (Rows.laid_internal_strconv_uint64pow10 : DataW Unit) = tabData .u64 pow10Tab := by kernel_rfl
theorem pow_of (W : World) (hL : laidMet Tryd.prog Rows.fnTryToStringOnNumberSafelyCaseTableRow.laid W) : PowTab W :=
  tab_of_reads (g := 1) (t := 42) (e := 33) (n := 20) (by kernel_rfl) (by kernel_rfl) Tryd.underlying42 Tryd.underlying33 (by kernel_rfl) (by kernel_rfl) (pow_eq ▸ laidMet.reads hL (.tail _ (.tail _ (.head _))))
theorem tz_of (W : World) (hL : laidMet Tryd.prog Rows.fnTryToStringOnNumberSafelyCaseTableRow.laid W) : TzAt W := by
  have hT : TabIs Tryd.prog W "math/bits.deBruijn64tab" .u8 dbTab :=
    tab_of_reads (g := 3) (t := 50) (e := 5) (n := 64) (by kernel_rfl) (by kernel_rfl) Tryd.underlying50 Tryd.underlying5 (by kernel_rfl) (by kernel_rfl) (db_eq ▸ laidMet.reads hL (.tail _ (.head _)))
  have hc := fun i hi => hT.cell (g := 3) (by kernel_rfl) i hi
  exact ⟨hc 1 (by decide), hc 3 (by decide), hc 7 (by decide), hc 15 (by decide), hc 31 (by decide)⟩

end Go.Proofs.YthmfjhadkmeldaaDoor
