/-
  DERIVED. GIVEN WITH THE SEED: THE CARDS: each row of YtidicogmfpfibaaFmtRows.lean that lists a variable, with what it lists TIED to the program's text (the seventh form; the later family's looks); each row that meets fmt, with fmt's text TOLD by the authors' own Lean function (tested against real Go, not proved from fmt's source: count such statements apart). THE CARD IS WHAT COUNTS. Prove the row's statement (the work); the ties are given (YtidicogmfpfibaaFmtTie.lean); close each card by the builder's one call (the guide's Derived/Test/ToyasCard.lean, 'card_holds'). Laid BY PROGRAM, IN A SANDBOX (cutbox-door.mjs). By AI agents, Wed Nov 11 2026. No macro, syntax, notation, axiom, sorry.
-/
import Derived.Test.YtidicogmfpfibaaFmtRows
import GoSem.ClaimSeven
namespace Go.Proofs.YtidicogmfpfibaaFmt
namespace Rows

/-- THE TOLD AND TIED CARD OF 'n011_133.FnIsStrictModeAgreesWithStrictModeReport'. -/
def fnIsStrictModeAgreesWithStrictModeReportCard : Claim7 := { stood := { row := fnIsStrictModeAgreesWithStrictModeReportRow, standIns := [], harness := (true, "85d6479414b26064981ea599b3a31f29c96f5e01d3f3546ed35e64185175a18c"), looks := false }, told := true, laidByText := true, laidKinds := [.data, .pinned], laidTests := true, laidLooks := .later, goes := false }
def FnIsStrictModeAgreesWithStrictModeReportToldSaid : Prop := Claim7.holds Tryf.pinned (.plain (OpenSpec.ofChange fnIsStrictModeAgreesWithStrictModeReportSpec)) fnIsStrictModeAgreesWithStrictModeReportCard
/-- ITS FALSE NEIGHBOUR. Refute it at one input. -/
def FnIsStrictModeAgreesWithStrictModeReportToldWrongFalsely : Prop := Claim7.holds Tryf.pinned (.plain (OpenSpec.ofChange fnIsStrictModeAgreesWithStrictModeReportWrong)) fnIsStrictModeAgreesWithStrictModeReportCard
end Rows
end Go.Proofs.YtidicogmfpfibaaFmt
