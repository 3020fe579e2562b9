/-
  DERIVED. GIVEN WITH THE SEED: THE CARDS: each row of YtidicogmfpfibabFmtRows.lean that lists a variable, with what it lists TIED to the program's text (the seventh form; the later family's looks); each row that meets fmt, with fmt's text TOLD by the authors' own Lean function (tested against real Go, not proved from fmt's source: count such statements apart). THE CARD IS WHAT COUNTS. Prove the row's statement (the work); the ties are given (YtidicogmfpfibabFmtTie.lean); close each card by the builder's one call (the guide's Derived/Test/ToyasCard.lean, 'card_holds'). Laid BY PROGRAM, IN A SANDBOX (cutbox-door.mjs). By AI agents, Wed Nov 11 2026. No macro, syntax, notation, axiom, sorry.
-/
import Derived.Test.YtidicogmfpfibabFmtRows
import GoSem.ClaimSeven
namespace Go.Proofs.YtidicogmfpfibabFmt
namespace Rows

/-- THE TOLD AND TIED CARD OF 'n011_300.FnMarkAsyncFnLogsExactlyWhenRefused'. -/
def fnMarkAsyncFnLogsExactlyWhenRefusedCard : Claim7 := { stood := { row := fnMarkAsyncFnLogsExactlyWhenRefusedRow, standIns := [], harness := (true, "3d2da0958c917070456a3558a16e262a3c8e93c47bdf23a5f7917fd264455aa2"), looks := false }, told := true, laidByText := true, laidKinds := [.data, .pinned], laidTests := true, laidLooks := .later, goes := false }
def FnMarkAsyncFnLogsExactlyWhenRefusedToldSaid : Prop := Claim7.holds Tryf.pinned (.plain (OpenSpec.ofChange fnMarkAsyncFnLogsExactlyWhenRefusedSpec)) fnMarkAsyncFnLogsExactlyWhenRefusedCard
/-- ITS FALSE NEIGHBOUR. Refute it at one input. -/
def FnMarkAsyncFnLogsExactlyWhenRefusedToldWrongFalsely : Prop := Claim7.holds Tryf.pinned (.plain (OpenSpec.ofChange fnMarkAsyncFnLogsExactlyWhenRefusedWrong)) fnMarkAsyncFnLogsExactlyWhenRefusedCard
end Rows
end Go.Proofs.YtidicogmfpfibabFmt
