/-
  DERIVED. GIVEN WITH THE SEED: THE CARDS: each row of YthmfjhadkmeldaaDoorRows.lean that lists a variable, with what it lists TIED to the program's text (the seventh form; the later family's looks); each row that meets fmt, with fmt's text TOLD by the authors' own Lean function (tested against real Go, not proved from fmt's source: count such statements apart). THE CARD IS WHAT COUNTS. Prove the row's statement (the work); the ties are given (YthmfjhadkmeldaaDoorTie.lean); close each card by the builder's one call (the guide's Derived/Test/ToyasCard.lean, 'card_holds'). Laid BY PROGRAM, IN A SANDBOX (cutbox-door.mjs). By AI agents, Wed Nov 11 2026. No macro, syntax, notation, axiom, sorry.
-/
import Derived.Test.YthmfjhadkmeldaaDoorRows
import GoSem.ClaimSeven
namespace Go.Proofs.YthmfjhadkmeldaaDoor
namespace Rows

/-- THE TIED CARD OF 'n011_168.FnTryToStringOnNumberSafelyCaseTable'. -/
def fnTryToStringOnNumberSafelyCaseTableCard : Claim7 := { stood := { row := fnTryToStringOnNumberSafelyCaseTableRow, standIns := [], harness := (true, "c41aae1f21cfb97011189057a7066a0b970b062ee993c60bd10363d277754243"), looks := false }, kinds := [], alts := [], laidByText := true, laidKinds := [.data, .data, .data], laidTests := true, laidLooks := .later }
def FnTryToStringOnNumberSafelyCaseTableCardSaid : Prop := Claim7.holds Tryd.pinned (.plain (OpenSpec.ofChange fnTryToStringOnNumberSafelyCaseTableSpec)) fnTryToStringOnNumberSafelyCaseTableCard

/-- THE SECOND FORM's CARD OF 'n011_168.FnTryToStringOnNumberSafelyCaseTable'. -/
def fnTryToStringOnNumberSafelyCaseTableUptoCard : Claim7 := { stood := { row := fnTryToStringOnNumberSafelyCaseTableUptoRow, standIns := [], harness := (true, "c41aae1f21cfb97011189057a7066a0b970b062ee993c60bd10363d277754243"), looks := false }, kinds := [], alts := [], laidByText := true, laidKinds := [.data, .data, .data], laidTests := true, laidLooks := .later }
def FnTryToStringOnNumberSafelyCaseTableUptoCardSaid : Prop := Claim7.holds Tryd.pinned (.plain (OpenSpec.upto fnTryToStringOnNumberSafelyCaseTableSpec)) fnTryToStringOnNumberSafelyCaseTableUptoCard
end Rows
end Go.Proofs.YthmfjhadkmeldaaDoor
