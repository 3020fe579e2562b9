/-
  No cell of these rows narrows 'for every input' (looked for: loops, veiled, ifaces, maps, wideKeys, modest, calm, conditions, laid).
  DERIVED. THE GIVEN ROWS OF THIS SEAT. 1 by the template 'for every input the law returns true; each argument reads behind the call as it read before'; 0 by the template 'total and deterministic' (their statements: YteccbmopijdibaaFmtTotals.lean).
  GIVEN WITH THE SEED: the statements are not yours to turn. If you find one false, say at which input.
  Laid BY PROGRAM, IN A SANDBOX (cutbox-rows.mjs): the forced cells as the released guide's own fill.sh prints them over the translation e72416d032c545b8… (all of the seat's roots in one cut). By AI agents, Wed Nov 11 2026. No macro, syntax, notation, axiom, sorry.
-/
import Derived.Test.YteccbmopijdibaaFmtChecked
import GoSem.Claim
import GoSem.ClaimJoined
import GoSem.ClaimMapViews
import Derived.JoinedTies
import Derived.KernelRfl
namespace Go.Proofs.YteccbmopijdibaaFmt
/- THE CELL 'sum', in the pinned program and in every row, IS THE sha256 OF THE DUMP (.gsa) THAT YteccbmopijdibaaFmtProg.lean LOADS. Nothing in Lean hashes anything: it is a label: what it is worth is what the hold of that sum in a sandbox is worth. -/
noncomputable def Tryf.pinned : Pinned := { name := "yteccbmopijdibaafmt", sum := "e72416d032c545b82adb4243032f5775809d8dc96de040744230c166e471128a", checked := Tryf.checked }
namespace Rows
def none {H : Type} : Left H := { results := [], args := [] }

/-- 'n011_175.FnTagHelpTextASCIIExact': WHATEVER THE INPUT: true; the input reads as it did. -/
def fnTagHelpTextASCIIExactSpec : ChangeSpec := { name := "fnTagHelpTextASCIIExact", fn := fun _ => fun
  | [d] => { results := [.lit (.bool true)], args := [d] }
  | _ => none }
def fnTagHelpTextASCIIExactRow : OpenClaim := { program := "yteccbmopijdibaafmt", sum := "e72416d032c545b82adb4243032f5775809d8dc96de040744230c166e471128a", func := "github.com/evanw/esbuild/n011_175.FnTagHelpTextASCIIExact", spec := "fnTagHelpTextASCIIExact", stops := ["fmt.Sprintf"], inPlace := ["fmt.Sprintf"], apart := false }
/-- NO THEOREM (fmt's text is open here; it may be false): for the released tool's asking of the row's closed facts alone. THE STATEMENT IS 'FnTagHelpTextASCIIExactToldSaid' (YteccbmopijdibaaFmtCards.lean). -/
def FnTagHelpTextASCIIExactFormAsk : Prop := fnTagHelpTextASCIIExactRow.holds Tryf.pinned (OpenSpec.ofChange fnTagHelpTextASCIIExactSpec)

/-- ITS FALSE NEIGHBOUR: 'it returns false'. Refute it at one input. -/
def fnTagHelpTextASCIIExactWrong : ChangeSpec := { name := "fnTagHelpTextASCIIExact", fn := fun _ => fun
  | [d] => { results := [.lit (.bool false)], args := [d] }
  | _ => none }
def FnTagHelpTextASCIIExactWrongFormAsk : Prop := fnTagHelpTextASCIIExactRow.holds Tryf.pinned (OpenSpec.ofChange fnTagHelpTextASCIIExactWrong)

end Rows
end Go.Proofs.YteccbmopijdibaaFmt
