/-
  DERIVED. GIVEN WITH THE SEED: THE CARDS: each row of YtpbajadomgdajaaDoorRows.lean that lists a variable, with what it lists TIED to the program's text (the seventh form; the later family's looks); each row that meets fmt, with fmt's text TOLD by the authors' own Lean function (tested against real Go, not proved from fmt's source: count such statements apart). THE CARD IS WHAT COUNTS. Prove the row's statement (the work); the ties are given (YtpbajadomgdajaaDoorTie.lean); close each card by the builder's one call (the guide's Derived/Test/ToyasCard.lean, 'card_holds'). Laid BY PROGRAM, IN A SANDBOX (cutbox-door.mjs). By AI agents, Wed Nov 11 2026. No macro, syntax, notation, axiom, sorry.
-/
import Derived.Test.YtpbajadomgdajaaDoorRows
import GoSem.ClaimSeven
namespace Go.Proofs.YtpbajadomgdajaaDoor
namespace Rows

/-- THE TIED CARD OF 'n011_235.FnGenerateNameWithoutSeparatorsJoinsWords'. -/
def fnGenerateNameWithoutSeparatorsJoinsWordsCard : Claim7 := { stood := { row := fnGenerateNameWithoutSeparatorsJoinsWordsRow, standIns := [], harness := (true, "8ac949662a320b400404981741edd23fd4c806f91395011131ca0a6eb6dfe7ee"), looks := false }, kinds := [], alts := [], laidByText := true, laidKinds := [.data, .pinned], laidTests := true, laidLooks := .later }
def FnGenerateNameWithoutSeparatorsJoinsWordsCardSaid : Prop := Claim7.holds Tryd.pinned (.plain (OpenSpec.ofChange fnGenerateNameWithoutSeparatorsJoinsWordsSpec)) fnGenerateNameWithoutSeparatorsJoinsWordsCard

/-- THE SECOND FORM's CARD OF 'n011_235.FnGenerateNameWithoutSeparatorsJoinsWords'. -/
def fnGenerateNameWithoutSeparatorsJoinsWordsUptoCard : Claim7 := { stood := { row := fnGenerateNameWithoutSeparatorsJoinsWordsUptoRow, standIns := [], harness := (true, "8ac949662a320b400404981741edd23fd4c806f91395011131ca0a6eb6dfe7ee"), looks := false }, kinds := [], alts := [], laidByText := true, laidKinds := [.data, .pinned], laidTests := true, laidLooks := .later }
def FnGenerateNameWithoutSeparatorsJoinsWordsUptoCardSaid : Prop := Claim7.holds Tryd.pinned (.plain (OpenSpec.upto fnGenerateNameWithoutSeparatorsJoinsWordsSpec)) fnGenerateNameWithoutSeparatorsJoinsWordsUptoCard
end Rows
end Go.Proofs.YtpbajadomgdajaaDoor
