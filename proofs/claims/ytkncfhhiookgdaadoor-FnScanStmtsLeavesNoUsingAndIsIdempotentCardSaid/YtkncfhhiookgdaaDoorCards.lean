/-
  DERIVED. GIVEN WITH THE SEED: THE CARDS: each row of YtkncfhhiookgdaaDoorRows.lean that lists a variable, with what it lists TIED to the program's text (the seventh form; the later family's looks); each row that meets fmt, with fmt's text TOLD by the authors' own Lean function (tested against real Go, not proved from fmt's source: count such statements apart). THE CARD IS WHAT COUNTS. Prove the row's statement (the work); the ties are given (YtkncfhhiookgdaaDoorTie.lean); close each card by the builder's one call (the guide's Derived/Test/ToyasCard.lean, 'card_holds'). Laid BY PROGRAM, IN A SANDBOX (cutbox-door.mjs). By AI agents, Wed Nov 11 2026. No macro, syntax, notation, axiom, sorry.
-/
import Derived.Test.YtkncfhhiookgdaaDoorRows
import GoSem.ClaimSeven
namespace Go.Proofs.YtkncfhhiookgdaaDoor
namespace Rows

/-- THE TIED CARD OF 'n011_263.FnScanStmtsLeavesNoUsingAndIsIdempotent'. -/
def fnScanStmtsLeavesNoUsingAndIsIdempotentCard : Claim7 := { stood := { row := fnScanStmtsLeavesNoUsingAndIsIdempotentRow, standIns := [], harness := (true, "2a473c81ba520415add6a162f987db32d7e7b82f63961936e379d043f60d564a"), looks := true }, kinds := [], alts := [], laidByText := true, laidKinds := [.data], laidTests := true, laidLooks := .later }
def FnScanStmtsLeavesNoUsingAndIsIdempotentCardSaid : Prop := Claim7.holds Tryd.pinned (.plain (OpenSpec.ofChange fnScanStmtsLeavesNoUsingAndIsIdempotentSpec)) fnScanStmtsLeavesNoUsingAndIsIdempotentCard

/-- THE SECOND FORM's CARD OF 'n011_263.FnScanStmtsLeavesNoUsingAndIsIdempotent'. -/
def fnScanStmtsLeavesNoUsingAndIsIdempotentUptoCard : Claim7 := { stood := { row := fnScanStmtsLeavesNoUsingAndIsIdempotentUptoRow, standIns := [], harness := (true, "2a473c81ba520415add6a162f987db32d7e7b82f63961936e379d043f60d564a"), looks := true }, kinds := [], alts := [], laidByText := true, laidKinds := [.data], laidTests := true, laidLooks := .later }
def FnScanStmtsLeavesNoUsingAndIsIdempotentUptoCardSaid : Prop := Claim7.holds Tryd.pinned (.plain (OpenSpec.upto fnScanStmtsLeavesNoUsingAndIsIdempotentSpec)) fnScanStmtsLeavesNoUsingAndIsIdempotentUptoCard
end Rows
end Go.Proofs.YtkncfhhiookgdaaDoor
