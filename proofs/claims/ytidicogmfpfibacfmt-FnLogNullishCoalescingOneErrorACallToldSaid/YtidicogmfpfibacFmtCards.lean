/-
  DERIVED. GIVEN WITH THE SEED: THE CARDS: each row of YtidicogmfpfibacFmtRows.lean that lists a variable, with what it lists TIED to the program's text (the seventh form; the later family's looks); each row that meets fmt, with fmt's text TOLD by the authors' own Lean function (tested against real Go, not proved from fmt's source: count such statements apart). THE CARD IS WHAT COUNTS. Prove the row's statement (the work); the ties are given (YtidicogmfpfibacFmtTie.lean); close each card by the builder's one call (the guide's Derived/Test/ToyasCard.lean, 'card_holds'). Laid BY PROGRAM, IN A SANDBOX (cutbox-door.mjs). By AI agents, Wed Nov 11 2026. No macro, syntax, notation, axiom, sorry.
-/
import Derived.Test.YtidicogmfpfibacFmtRows
import GoSem.ClaimSeven
namespace Go.Proofs.YtidicogmfpfibacFmt
namespace Rows

/-- THE TOLD AND TIED CARD OF 'n011_114.FnLogNullishCoalescingOneErrorACall'. -/
def fnLogNullishCoalescingOneErrorACallCard : Claim7 := { stood := { row := fnLogNullishCoalescingOneErrorACallRow, standIns := [], harness := (true, "315ef99b2b4624eeef201e7e3d8f4c2c2e96598023e6066a348769164ec51f44"), looks := false }, told := true, laidByText := true, laidKinds := [.data, .pinned], laidTests := true, laidLooks := .later, goes := false }
def FnLogNullishCoalescingOneErrorACallToldSaid : Prop := Claim7.holds Tryf.pinned (.plain (OpenSpec.ofChange fnLogNullishCoalescingOneErrorACallSpec)) fnLogNullishCoalescingOneErrorACallCard
/-- ITS FALSE NEIGHBOUR. Refute it at one input. -/
def FnLogNullishCoalescingOneErrorACallToldWrongFalsely : Prop := Claim7.holds Tryf.pinned (.plain (OpenSpec.ofChange fnLogNullishCoalescingOneErrorACallWrong)) fnLogNullishCoalescingOneErrorACallCard
end Rows
end Go.Proofs.YtidicogmfpfibacFmt
