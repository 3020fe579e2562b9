/-
  DERIVED. GIVEN WITH THE SEED: THE CARDS: each row of YtkncfhhiookgdacDoorRows.lean that lists a variable, with what it lists TIED to the program's text (the seventh form; the later family's looks); each row that meets fmt, with fmt's text TOLD by the authors' own Lean function (tested against real Go, not proved from fmt's source: count such statements apart). THE CARD IS WHAT COUNTS. Prove the row's statement (the work); the ties are given (YtkncfhhiookgdacDoorTie.lean); close each card by the builder's one call (the guide's Derived/Test/ToyasCard.lean, 'card_holds'). Laid BY PROGRAM, IN A SANDBOX (cutbox-door.mjs). By AI agents, Wed Nov 11 2026. No macro, syntax, notation, axiom, sorry.
-/
import Derived.Test.YtkncfhhiookgdacDoorRows
import GoSem.ClaimSeven
namespace Go.Proofs.YtkncfhhiookgdacDoor
namespace Rows

/-- THE TIED CARD OF 'n011_109.FnInlinePrimitivesIntoTemplateIsIdempotent'. -/
def fnInlinePrimitivesIntoTemplateIsIdempotentCard : Claim7 := { stood := { row := fnInlinePrimitivesIntoTemplateIsIdempotentRow, standIns := [], harness := (true, "4a39da6c14ca7e694634e841176a947bcd71db168ba3cb7932c6b46dd9733c27"), looks := true }, kinds := [], alts := [], laidByText := true, laidKinds := [.data, .data, .data], laidTests := true, laidLooks := .later }
def FnInlinePrimitivesIntoTemplateIsIdempotentCardSaid : Prop := Claim7.holds Tryd.pinned (.plain (OpenSpec.ofChange fnInlinePrimitivesIntoTemplateIsIdempotentSpec)) fnInlinePrimitivesIntoTemplateIsIdempotentCard

/-- THE SECOND FORM's CARD OF 'n011_109.FnInlinePrimitivesIntoTemplateIsIdempotent'. -/
def fnInlinePrimitivesIntoTemplateIsIdempotentUptoCard : Claim7 := { stood := { row := fnInlinePrimitivesIntoTemplateIsIdempotentUptoRow, standIns := [], harness := (true, "4a39da6c14ca7e694634e841176a947bcd71db168ba3cb7932c6b46dd9733c27"), looks := true }, kinds := [], alts := [], laidByText := true, laidKinds := [.data, .data, .data], laidTests := true, laidLooks := .later }
def FnInlinePrimitivesIntoTemplateIsIdempotentUptoCardSaid : Prop := Claim7.holds Tryd.pinned (.plain (OpenSpec.upto fnInlinePrimitivesIntoTemplateIsIdempotentSpec)) fnInlinePrimitivesIntoTemplateIsIdempotentUptoCard
end Rows
end Go.Proofs.YtkncfhhiookgdacDoor
