/-
  DERIVED. GIVEN WITH THE SEED: THE CARDS: each row of YtfmfniddnlpkmaaDoorRows.lean that lists a variable, with what it lists TIED to the program's text (the seventh form; the later family's looks); each row that meets fmt, with fmt's text TOLD by the authors' own Lean function (tested against real Go, not proved from fmt's source: count such statements apart). THE CARD IS WHAT COUNTS. Prove the row's statement (the work); the ties are given (YtfmfniddnlpkmaaDoorTie.lean); close each card by the builder's one call (the guide's Derived/Test/ToyasCard.lean, 'card_holds'). Laid BY PROGRAM, IN A SANDBOX (cutbox-door.mjs). By AI agents, Wed Nov 11 2026. No macro, syntax, notation, axiom, sorry.
-/
import Derived.Test.YtfmfniddnlpkmaaDoorRows
import GoSem.ClaimSeven
namespace Go.Proofs.YtfmfniddnlpkmaaDoor
namespace Rows

/-- THE TIED CARD OF 'n011_118.FnValueForImportMetaStableAcrossCalls'. -/
def fnValueForImportMetaStableAcrossCallsCard : Claim7 := { stood := { row := fnValueForImportMetaStableAcrossCallsRow, standIns := [], harness := (true, "54330880f41c984e5eb4c94d2d98769a6b277dd451adef127c67cff892068796"), looks := true }, kinds := [], alts := [], laidByText := true, laidKinds := [.data], laidTests := true, laidLooks := .later }
def FnValueForImportMetaStableAcrossCallsCardSaid : Prop := Claim7.holds Tryd.pinned (.plain (OpenSpec.ofChange fnValueForImportMetaStableAcrossCallsSpec)) fnValueForImportMetaStableAcrossCallsCard

/-- THE TIED CARD OF 'n011_124.FnCheckUnusedTSImportEqualsFrame'. -/
def fnCheckUnusedTSImportEqualsFrameCard : Claim7 := { stood := { row := fnCheckUnusedTSImportEqualsFrameRow, standIns := [], harness := (true, "54330880f41c984e5eb4c94d2d98769a6b277dd451adef127c67cff892068796"), looks := true }, kinds := [], alts := [], laidByText := true, laidKinds := [.data], laidTests := true, laidLooks := .later }
def FnCheckUnusedTSImportEqualsFrameCardSaid : Prop := Claim7.holds Tryd.pinned (.plain (OpenSpec.ofChange fnCheckUnusedTSImportEqualsFrameSpec)) fnCheckUnusedTSImportEqualsFrameCard

/-- THE TIED CARD OF 'n011_249.FnObjectSpreadHelperUseCounts'. -/
def fnObjectSpreadHelperUseCountsCard : Claim7 := { stood := { row := fnObjectSpreadHelperUseCountsRow, standIns := [], harness := (true, "54330880f41c984e5eb4c94d2d98769a6b277dd451adef127c67cff892068796"), looks := true }, kinds := [], alts := [], laidByText := true, laidKinds := [.data], laidTests := true, laidLooks := .later }
def FnObjectSpreadHelperUseCountsCardSaid : Prop := Claim7.holds Tryd.pinned (.plain (OpenSpec.ofChange fnObjectSpreadHelperUseCountsSpec)) fnObjectSpreadHelperUseCountsCard

/-- THE SECOND FORM's CARD OF 'n011_118.FnValueForImportMetaStableAcrossCalls'. -/
def fnValueForImportMetaStableAcrossCallsUptoCard : Claim7 := { stood := { row := fnValueForImportMetaStableAcrossCallsUptoRow, standIns := [], harness := (true, "54330880f41c984e5eb4c94d2d98769a6b277dd451adef127c67cff892068796"), looks := true }, kinds := [], alts := [], laidByText := true, laidKinds := [.data], laidTests := true, laidLooks := .later }
def FnValueForImportMetaStableAcrossCallsUptoCardSaid : Prop := Claim7.holds Tryd.pinned (.plain (OpenSpec.upto fnValueForImportMetaStableAcrossCallsSpec)) fnValueForImportMetaStableAcrossCallsUptoCard

/-- THE SECOND FORM's CARD OF 'n011_124.FnCheckUnusedTSImportEqualsFrame'. -/
def fnCheckUnusedTSImportEqualsFrameUptoCard : Claim7 := { stood := { row := fnCheckUnusedTSImportEqualsFrameUptoRow, standIns := [], harness := (true, "54330880f41c984e5eb4c94d2d98769a6b277dd451adef127c67cff892068796"), looks := true }, kinds := [], alts := [], laidByText := true, laidKinds := [.data], laidTests := true, laidLooks := .later }
def FnCheckUnusedTSImportEqualsFrameUptoCardSaid : Prop := Claim7.holds Tryd.pinned (.plain (OpenSpec.upto fnCheckUnusedTSImportEqualsFrameSpec)) fnCheckUnusedTSImportEqualsFrameUptoCard

/-- THE SECOND FORM's CARD OF 'n011_249.FnObjectSpreadHelperUseCounts'. -/
def fnObjectSpreadHelperUseCountsUptoCard : Claim7 := { stood := { row := fnObjectSpreadHelperUseCountsUptoRow, standIns := [], harness := (true, "54330880f41c984e5eb4c94d2d98769a6b277dd451adef127c67cff892068796"), looks := true }, kinds := [], alts := [], laidByText := true, laidKinds := [.data], laidTests := true, laidLooks := .later }
def FnObjectSpreadHelperUseCountsUptoCardSaid : Prop := Claim7.holds Tryd.pinned (.plain (OpenSpec.upto fnObjectSpreadHelperUseCountsSpec)) fnObjectSpreadHelperUseCountsUptoCard
end Rows
end Go.Proofs.YtfmfniddnlpkmaaDoor
