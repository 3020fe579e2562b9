/-
  DERIVED. GIVEN WITH THE SEED: THE CARDS: each row of YtncmpgoggagdbadDoorRows.lean that lists a variable, with what it lists TIED to the program's text (the seventh form; the later family's looks); each row that meets fmt, with fmt's text TOLD by the authors' own Lean function (tested against real Go, not proved from fmt's source: count such statements apart). THE CARD IS WHAT COUNTS. Prove the row's statement (the work); the ties are given (YtncmpgoggagdbadDoorTie.lean); close each card by the builder's one call (the guide's Derived/Test/ToyasCard.lean, 'card_holds'). Laid BY PROGRAM, IN A SANDBOX (cutbox-door.mjs). By AI agents, Wed Nov 11 2026. No macro, syntax, notation, axiom, sorry.
-/
import Derived.Test.YtncmpgoggagdbadDoorRows
import GoSem.ClaimSeven
namespace Go.Proofs.YtncmpgoggagdbadDoor
namespace Rows

/-- THE TIED CARD OF 'n011_110.FnSaveExprCommentsStoresTexts'. -/
def fnSaveExprCommentsStoresTextsCard : Claim7 := { stood := { row := fnSaveExprCommentsStoresTextsRow, standIns := [], harness := (true, "a97faba52e09a85de90a3e855a47d7affa103014f0dd726926704895e1bdfcdd"), looks := false }, kinds := [], alts := [], laidByText := true, laidKinds := [.data, .pinned], laidTests := true, laidLooks := .later }
def FnSaveExprCommentsStoresTextsCardSaid : Prop := Claim7.holds Tryd.pinned (.plain (OpenSpec.ofChange fnSaveExprCommentsStoresTextsSpec)) fnSaveExprCommentsStoresTextsCard

/-- THE SECOND FORM's CARD OF 'n011_110.FnSaveExprCommentsStoresTexts'. -/
def fnSaveExprCommentsStoresTextsUptoCard : Claim7 := { stood := { row := fnSaveExprCommentsStoresTextsUptoRow, standIns := [], harness := (true, "a97faba52e09a85de90a3e855a47d7affa103014f0dd726926704895e1bdfcdd"), looks := false }, kinds := [], alts := [], laidByText := true, laidKinds := [.data, .pinned], laidTests := true, laidLooks := .later }
def FnSaveExprCommentsStoresTextsUptoCardSaid : Prop := Claim7.holds Tryd.pinned (.plain (OpenSpec.upto fnSaveExprCommentsStoresTextsSpec)) fnSaveExprCommentsStoresTextsUptoCard
end Rows
end Go.Proofs.YtncmpgoggagdbadDoor
