/-
  DERIVED. GIVEN WITH THE SEED: THE CARDS: each row of YthmfjhadkmeldacFmtRows.lean that lists a variable, with what it lists TIED to the program's text (the seventh form; the later family's looks); each row that meets fmt, with fmt's text TOLD by the authors' own Lean function (tested against real Go, not proved from fmt's source: count such statements apart). THE CARD IS WHAT COUNTS. Prove the row's statement (the work); the ties are given (YthmfjhadkmeldacFmtTie.lean); close each card by the builder's one call (the guide's Derived/Test/ToyasCard.lean, 'card_holds'). Laid BY PROGRAM, IN A SANDBOX (cutbox-door.mjs). By AI agents, Wed Nov 11 2026. No macro, syntax, notation, axiom, sorry.
-/
import Derived.Test.YthmfjhadkmeldacFmtRows
import GoSem.ClaimSeven
namespace Go.Proofs.YthmfjhadkmeldacFmt
namespace Rows

/-- THE TOLD CARD OF 'n011_222.FnPushScopeForVisitPassAppendsAfterEarlierPartScopes'. -/
def fnPushScopeForVisitPassAppendsAfterEarlierPartScopesCard : Claim7 := { stood := { row := fnPushScopeForVisitPassAppendsAfterEarlierPartScopesRow, standIns := [], harness := (true, "950c4e54e40dd408b4c6039cbbf5d490dae7f8102099449b93e21ac457fe52f0"), looks := false }, told := true, goes := false }
def FnPushScopeForVisitPassAppendsAfterEarlierPartScopesToldSaid : Prop := Claim7.holds Tryf.pinned (.plain (OpenSpec.ofChange fnPushScopeForVisitPassAppendsAfterEarlierPartScopesSpec)) fnPushScopeForVisitPassAppendsAfterEarlierPartScopesCard
/-- ITS FALSE NEIGHBOUR. Refute it at one input. -/
def FnPushScopeForVisitPassAppendsAfterEarlierPartScopesToldWrongFalsely : Prop := Claim7.holds Tryf.pinned (.plain (OpenSpec.ofChange fnPushScopeForVisitPassAppendsAfterEarlierPartScopesWrong)) fnPushScopeForVisitPassAppendsAfterEarlierPartScopesCard
end Rows
end Go.Proofs.YthmfjhadkmeldacFmt
