/-
  DERIVED. GIVEN WITH THE SEED: THE CARDS: each row of YtfbjlgjlbndmkadDoorRows.lean that lists a variable, with what it lists TIED to the program's text (the seventh form; the later family's looks); each row that meets fmt, with fmt's text TOLD by the authors' own Lean function (tested against real Go, not proved from fmt's source: count such statements apart). THE CARD IS WHAT COUNTS. Prove the row's statement (the work); the ties are given (YtfbjlgjlbndmkadDoorTie.lean); close each card by the builder's one call (the guide's Derived/Test/ToyasCard.lean, 'card_holds'). Laid BY PROGRAM, IN A SANDBOX (cutbox-door.mjs). By AI agents, Wed Nov 11 2026. No macro, syntax, notation, axiom, sorry.
-/
import Derived.Test.YtfbjlgjlbndmkadDoorRows
import GoSem.ClaimSeven
namespace Go.Proofs.YtfbjlgjlbndmkadDoor
namespace Rows

/-- THE TIED CARD OF 'n011_114.FnLogArrowArgErrorsSplit'. -/
def fnLogArrowArgErrorsSplitCard : Claim7 := { stood := { row := fnLogArrowArgErrorsSplitRow, standIns := [], harness := (true, "b94555c64a902b466a60516b669d4efdf34c6975f9a884d8fd13b1c1b15e1739"), looks := false }, kinds := [], alts := [], laidByText := true, laidKinds := [.data, .pinned], laidTests := true, laidLooks := .later }
def FnLogArrowArgErrorsSplitCardSaid : Prop := Claim7.holds Tryd.pinned (.plain (OpenSpec.ofChange fnLogArrowArgErrorsSplitSpec)) fnLogArrowArgErrorsSplitCard

/-- THE SECOND FORM's CARD OF 'n011_114.FnLogArrowArgErrorsSplit'. -/
def fnLogArrowArgErrorsSplitUptoCard : Claim7 := { stood := { row := fnLogArrowArgErrorsSplitUptoRow, standIns := [], harness := (true, "b94555c64a902b466a60516b669d4efdf34c6975f9a884d8fd13b1c1b15e1739"), looks := false }, kinds := [], alts := [], laidByText := true, laidKinds := [.data, .pinned], laidTests := true, laidLooks := .later }
def FnLogArrowArgErrorsSplitUptoCardSaid : Prop := Claim7.holds Tryd.pinned (.plain (OpenSpec.upto fnLogArrowArgErrorsSplitSpec)) fnLogArrowArgErrorsSplitUptoCard
end Rows
end Go.Proofs.YtfbjlgjlbndmkadDoor
