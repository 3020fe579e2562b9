/-
  DERIVED. GIVEN WITH THE SEED: THE CARDS: each row of YteccbmopijdibaaFmtRows.lean that lists a variable, with what it lists TIED to the program's text (the seventh form; the later family's looks); each row that meets fmt, with fmt's text TOLD by the authors' own Lean function (tested against real Go, not proved from fmt's source: count such statements apart). THE CARD IS WHAT COUNTS. Prove the row's statement (the work); the ties are given (YteccbmopijdibaaFmtTie.lean); close each card by the builder's one call (the guide's Derived/Test/ToyasCard.lean, 'card_holds'). Laid BY PROGRAM, IN A SANDBOX (cutbox-door.mjs). By AI agents, Wed Nov 11 2026. No macro, syntax, notation, axiom, sorry.
-/
import Derived.Test.YteccbmopijdibaaFmtRows
import GoSem.ClaimSeven
namespace Go.Proofs.YteccbmopijdibaaFmt
namespace Rows

/-- THE TOLD CARD OF 'n011_175.FnTagHelpTextASCIIExact'. -/
def fnTagHelpTextASCIIExactCard : Claim7 := { stood := { row := fnTagHelpTextASCIIExactRow, standIns := [], harness := (true, "c18b5d29cfe00bc335cd7f15558c8dba26f938fb27eea0d68f227eba587c311f"), looks := false }, told := true, goes := false }
def FnTagHelpTextASCIIExactToldSaid : Prop := Claim7.holds Tryf.pinned (.plain (OpenSpec.ofChange fnTagHelpTextASCIIExactSpec)) fnTagHelpTextASCIIExactCard
/-- ITS FALSE NEIGHBOUR. Refute it at one input. -/
def FnTagHelpTextASCIIExactToldWrongFalsely : Prop := Claim7.holds Tryf.pinned (.plain (OpenSpec.ofChange fnTagHelpTextASCIIExactWrong)) fnTagHelpTextASCIIExactCard
end Rows
end Go.Proofs.YteccbmopijdibaaFmt
