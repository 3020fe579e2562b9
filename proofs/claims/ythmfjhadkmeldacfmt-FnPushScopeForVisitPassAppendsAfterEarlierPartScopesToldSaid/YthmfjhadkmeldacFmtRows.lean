/-
  No cell of these rows narrows 'for every input' (looked for: loops, veiled, ifaces, maps, wideKeys, modest, calm, conditions, laid).
  DERIVED. THE GIVEN ROWS OF THIS SEAT. 1 by the template 'for every input the law returns true; each argument reads behind the call as it read before'; 0 by the template 'total and deterministic' (their statements: YthmfjhadkmeldacFmtTotals.lean).
  GIVEN WITH THE SEED: the statements are not yours to turn. If you find one false, say at which input.
  Laid BY PROGRAM, IN A SANDBOX (cutbox-rows.mjs): the forced cells as the released guide's own fill.sh prints them over the translation da312f8c69fe9c7d… (all of the seat's roots in one cut). By AI agents, Wed Nov 11 2026. No macro, syntax, notation, axiom, sorry.
-/
import Derived.Test.YthmfjhadkmeldacFmtChecked
import GoSem.Claim
import GoSem.ClaimJoined
import GoSem.ClaimMapViews
import Derived.JoinedTies
import Derived.KernelRfl
namespace Go.Proofs.YthmfjhadkmeldacFmt
/- THE CELL 'sum', in the pinned program and in every row, IS THE sha256 OF THE DUMP (.gsa) THAT YthmfjhadkmeldacFmtProg.lean LOADS. Nothing in Lean hashes anything: it is a label: what it is worth is what the hold of that sum in a sandbox is worth. -/
noncomputable def Tryf.pinned : Pinned := { name := "ythmfjhadkmeldacfmt", sum := "da312f8c69fe9c7de4d2973313841a0511162856122bb6234cf059e421351a10", checked := Tryf.checked }
namespace Rows
def none {H : Type} : Left H := { results := [], args := [] }

/-- 'n011_222.FnPushScopeForVisitPassAppendsAfterEarlierPartScopes': WHATEVER THE INPUT: true; the input reads as it did. -/
def fnPushScopeForVisitPassAppendsAfterEarlierPartScopesSpec : ChangeSpec := { name := "fnPushScopeForVisitPassAppendsAfterEarlierPartScopes", fn := fun _ => fun
  | [d1, d2, d3] => { results := [.lit (.bool true)], args := [d1, d2, d3] }
  | _ => none }
def fnPushScopeForVisitPassAppendsAfterEarlierPartScopesRow : OpenClaim := { program := "ythmfjhadkmeldacfmt", sum := "da312f8c69fe9c7de4d2973313841a0511162856122bb6234cf059e421351a10", func := "github.com/evanw/esbuild/n011_222.FnPushScopeForVisitPassAppendsAfterEarlierPartScopes", spec := "fnPushScopeForVisitPassAppendsAfterEarlierPartScopes", stops := ["fmt.Sprintf"], inPlace := ["fmt.Sprintf"], plainKeys := false, apart := false }
/-- NO THEOREM (fmt's text is open here; it may be false): for the released tool's asking of the row's closed facts alone. THE STATEMENT IS 'FnPushScopeForVisitPassAppendsAfterEarlierPartScopesToldSaid' (YthmfjhadkmeldacFmtCards.lean). -/
def FnPushScopeForVisitPassAppendsAfterEarlierPartScopesFormAsk : Prop := fnPushScopeForVisitPassAppendsAfterEarlierPartScopesRow.holds Tryf.pinned (OpenSpec.ofChange fnPushScopeForVisitPassAppendsAfterEarlierPartScopesSpec)

/-- ITS FALSE NEIGHBOUR: 'it returns false'. Refute it at one input. -/
def fnPushScopeForVisitPassAppendsAfterEarlierPartScopesWrong : ChangeSpec := { name := "fnPushScopeForVisitPassAppendsAfterEarlierPartScopes", fn := fun _ => fun
  | [d1, d2, d3] => { results := [.lit (.bool false)], args := [d1, d2, d3] }
  | _ => none }
def FnPushScopeForVisitPassAppendsAfterEarlierPartScopesWrongFormAsk : Prop := fnPushScopeForVisitPassAppendsAfterEarlierPartScopesRow.holds Tryf.pinned (OpenSpec.ofChange fnPushScopeForVisitPassAppendsAfterEarlierPartScopesWrong)

end Rows
end Go.Proofs.YthmfjhadkmeldacFmt
