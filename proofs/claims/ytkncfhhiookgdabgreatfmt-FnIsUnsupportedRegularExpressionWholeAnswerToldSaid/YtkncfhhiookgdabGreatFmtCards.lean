/-
  DERIVED. GIVEN WITH THE SEED: THE CARDS: each row of YtkncfhhiookgdabGreatFmtRows.lean that lists a variable, with what it lists TIED to the program's text (the seventh form; the later family's looks); each row that meets fmt, with fmt's text TOLD by the authors' own Lean function (tested against real Go, not proved from fmt's source: count such statements apart). THE CARD IS WHAT COUNTS. Prove the row's statement (the work); the ties are given (YtkncfhhiookgdabGreatFmtTie.lean); close each card by the builder's one call (the guide's Derived/Test/ToyasCard.lean, 'card_holds'). Laid BY PROGRAM, IN A SANDBOX (cutbox-door.mjs). By AI agents, Wed Nov 11 2026. No macro, syntax, notation, axiom, sorry.
-/
import Derived.Test.YtkncfhhiookgdabGreatFmtRows
import GoSem.ClaimSeven
namespace Go.Proofs.YtkncfhhiookgdabGreatFmt
namespace Rows

/-- THE TOLD AND TIED CARD OF 'n011_56.FnIsUnsupportedRegularExpressionWholeAnswer'. -/
def fnIsUnsupportedRegularExpressionWholeAnswerCard : Claim7 := { stood := { row := fnIsUnsupportedRegularExpressionWholeAnswerRow, standIns := [], harness := (true, "d9bb3eae5fb9e838a7ff1ea74d5202f3c67a6423109b4ae3db1724236380f6d0"), looks := false }, told := true, laidByText := true, laidKinds := [.data, .pinned], laidTests := true, laidLooks := .later, goes := false }
def FnIsUnsupportedRegularExpressionWholeAnswerToldSaid : Prop := Claim7.holds Tryz.pinned (.plain (OpenSpec.ofChange fnIsUnsupportedRegularExpressionWholeAnswerSpec)) fnIsUnsupportedRegularExpressionWholeAnswerCard
/-- ITS FALSE NEIGHBOUR. Refute it at one input. -/
def FnIsUnsupportedRegularExpressionWholeAnswerToldWrongFalsely : Prop := Claim7.holds Tryz.pinned (.plain (OpenSpec.ofChange fnIsUnsupportedRegularExpressionWholeAnswerWrong)) fnIsUnsupportedRegularExpressionWholeAnswerCard
end Rows
end Go.Proofs.YtkncfhhiookgdabGreatFmt
