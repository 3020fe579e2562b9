/-
  No cell of these rows narrows 'for every input' (looked for: loops, veiled, ifaces, maps, wideKeys, modest, calm, conditions, laid).
  DERIVED. THE GIVEN ROWS OF THIS SEAT. 3 by the template 'for every input the law returns true; each argument reads behind the call as it read before'; 0 by the template 'total and deterministic' (their statements: YtlehgpnglghlkaaTotals.lean).
  GIVEN WITH THE SEED: the statements are not yours to turn. If you find one false, say at which input.
  Laid BY PROGRAM, IN A SANDBOX (cutbox-rows.mjs): the forced cells as the released guide's own fill.sh prints them over the translation edfdf004c25811ef… (all of the seat's roots in one cut). By AI agents, Wed Nov 11 2026. No macro, syntax, notation, axiom, sorry.
-/
import Derived.Test.YtlehgpnglghlkaaChecked
import GoSem.Claim
import GoSem.ClaimJoined
import GoSem.ClaimMapViews
import Derived.JoinedTies
import Derived.KernelRfl
namespace Go.Proofs.Ytlehgpnglghlkaa
/- THE CELL 'sum', in the pinned program and in every row, IS THE sha256 OF THE DUMP (.gsa) THAT YtlehgpnglghlkaaProg.lean LOADS. Nothing in Lean hashes anything: it is a label: what it is worth is what the hold of that sum in a sandbox is worth. -/
noncomputable def Try.pinned : Pinned := { name := "ytlehgpnglghlkaa", sum := "edfdf004c25811efb38fd7059b4513468ad488266ba60a2fc70341963fbf3875", checked := Try.checked }
namespace Rows
def none {H : Type} : Left H := { results := [], args := [] }

/-- 'n011_36.FnRecordUsageCountsEveryCall': WHATEVER THE INPUT: true; the input reads as it did. -/
def fnRecordUsageCountsEveryCallSpec : ChangeSpec := { name := "fnRecordUsageCountsEveryCall", fn := fun _ => fun
  | [d1, d2, d3, d4, d5] => { results := [.lit (.bool true)], args := [d1, d2, d3, d4, d5] }
  | _ => none }
def fnRecordUsageCountsEveryCallRow : OpenClaim := { program := "ytlehgpnglghlkaa", sum := "edfdf004c25811efb38fd7059b4513468ad488266ba60a2fc70341963fbf3875", func := "github.com/evanw/esbuild/n011_36.FnRecordUsageCountsEveryCall", spec := "fnRecordUsageCountsEveryCall", plainKeys := false, apart := false }
def FnRecordUsageCountsEveryCallSaid : Prop := fnRecordUsageCountsEveryCallRow.holds Try.pinned (OpenSpec.ofChange fnRecordUsageCountsEveryCallSpec)

/-- ITS FALSE NEIGHBOUR: 'it returns false'. Refute it at one input. -/
def fnRecordUsageCountsEveryCallWrong : ChangeSpec := { name := "fnRecordUsageCountsEveryCall", fn := fun _ => fun
  | [d1, d2, d3, d4, d5] => { results := [.lit (.bool false)], args := [d1, d2, d3, d4, d5] }
  | _ => none }
def FnRecordUsageCountsEveryCallWrongFalsely : Prop := fnRecordUsageCountsEveryCallRow.holds Try.pinned (OpenSpec.ofChange fnRecordUsageCountsEveryCallWrong)

/-- 'n011_310.FnIgnoreDotChainUndoesRecordUsage': WHATEVER THE INPUT: true; the input reads as it did. -/
def fnIgnoreDotChainUndoesRecordUsageSpec : ChangeSpec := { name := "fnIgnoreDotChainUndoesRecordUsage", fn := fun _ => fun
  | [d1, d2, d3, d4, d5, d6, d7] => { results := [.lit (.bool true)], args := [d1, d2, d3, d4, d5, d6, d7] }
  | _ => none }
def fnIgnoreDotChainUndoesRecordUsageRow : OpenClaim := { program := "ytlehgpnglghlkaa", sum := "edfdf004c25811efb38fd7059b4513468ad488266ba60a2fc70341963fbf3875", func := "github.com/evanw/esbuild/n011_310.FnIgnoreDotChainUndoesRecordUsage", spec := "fnIgnoreDotChainUndoesRecordUsage", plainKeys := false, apart := false }
def FnIgnoreDotChainUndoesRecordUsageSaid : Prop := fnIgnoreDotChainUndoesRecordUsageRow.holds Try.pinned (OpenSpec.ofChange fnIgnoreDotChainUndoesRecordUsageSpec)

/-- ITS FALSE NEIGHBOUR: 'it returns false'. Refute it at one input. -/
def fnIgnoreDotChainUndoesRecordUsageWrong : ChangeSpec := { name := "fnIgnoreDotChainUndoesRecordUsage", fn := fun _ => fun
  | [d1, d2, d3, d4, d5, d6, d7] => { results := [.lit (.bool false)], args := [d1, d2, d3, d4, d5, d6, d7] }
  | _ => none }
def FnIgnoreDotChainUndoesRecordUsageWrongFalsely : Prop := fnIgnoreDotChainUndoesRecordUsageRow.holds Try.pinned (OpenSpec.ofChange fnIgnoreDotChainUndoesRecordUsageWrong)

/-- 'n011_72.FnRecordDeclaredSymbolReverseScript': WHATEVER THE INPUT: true; the input reads as it did. -/
def fnRecordDeclaredSymbolReverseScriptSpec : ChangeSpec := { name := "fnRecordDeclaredSymbolReverseScript", fn := fun _ => fun
  | [d1, d2, d3, d4, d5] => { results := [.lit (.bool true)], args := [d1, d2, d3, d4, d5] }
  | _ => none }
def fnRecordDeclaredSymbolReverseScriptRow : OpenClaim := { program := "ytlehgpnglghlkaa", sum := "edfdf004c25811efb38fd7059b4513468ad488266ba60a2fc70341963fbf3875", func := "github.com/evanw/esbuild/n011_72.FnRecordDeclaredSymbolReverseScript", spec := "fnRecordDeclaredSymbolReverseScript", plainKeys := false, apart := false }
def FnRecordDeclaredSymbolReverseScriptSaid : Prop := fnRecordDeclaredSymbolReverseScriptRow.holds Try.pinned (OpenSpec.ofChange fnRecordDeclaredSymbolReverseScriptSpec)

/-- ITS FALSE NEIGHBOUR: 'it returns false'. Refute it at one input. -/
def fnRecordDeclaredSymbolReverseScriptWrong : ChangeSpec := { name := "fnRecordDeclaredSymbolReverseScript", fn := fun _ => fun
  | [d1, d2, d3, d4, d5] => { results := [.lit (.bool false)], args := [d1, d2, d3, d4, d5] }
  | _ => none }
def FnRecordDeclaredSymbolReverseScriptWrongFalsely : Prop := fnRecordDeclaredSymbolReverseScriptRow.holds Try.pinned (OpenSpec.ofChange fnRecordDeclaredSymbolReverseScriptWrong)

/- THE SECOND FORM. 'bulk': how many values and letters a reading holds, each counted each time it is reached (what is shared counts as often as it is met; a slice's spare places count too). A statement '..UptoSaid' is the law's where the arguments, and the package variables that the reading takes, are together of bulk at most 1048576: NARROWER than '..Said'. Prove '..Said' where nothing that the law and all that it calls make is longer than what came in: it says more and counts as full. Else prove '..UptoSaid'. A law counts once. -/
mutual
def uptoBulk {H : Type} : DataW H → Nat
  | .lit (.string bytes) => bytes.length + 1
  | .lit _ => 1
  | .nil => 1
  | .ptr d => uptoBulk d + 1
  | .slice elems spare => uptoBulkAll elems + uptoBulkAll spare + 1
  | .agg parts => uptoBulkAll parts + 1
  | .iface _ d => uptoBulk d + 1
  | .map entries => uptoBulkEntries entries + 1
  | .held _ => 1
def uptoBulkAll {H : Type} : List (DataW H) → Nat
  | [] => 0
  | d :: r => uptoBulk d + uptoBulkAll r
def uptoBulkEntries {H : Type} : List (Lit × DataW H) → Nat
  | [] => 0
  | x :: r => uptoBulkEntry x + uptoBulkEntries r
def uptoBulkEntry {H : Type} : Lit × DataW H → Nat
  | (.string bytes, d) => bytes.length + uptoBulk d + 1
  | (_, d) => uptoBulk d + 1
 end
def uptoSmall : (H : Type) → List (DataW H) → Bool := fun _ ds => decide (uptoBulkAll ds ≤ 1048576)
def OpenSpec.upto (s : _root_.Go.ChangeSpec) : _root_.Go.OpenSpec := { _root_.Go.OpenSpec.ofChange s with cond := some uptoSmall }

/-- 'n011_36.FnRecordUsageCountsEveryCall', WHERE WHAT IT READS IS OF BULK AT MOST 1048576: true; the input reads as it did. -/
def fnRecordUsageCountsEveryCallUptoRow : OpenClaim := { program := "ytlehgpnglghlkaa", sum := "edfdf004c25811efb38fd7059b4513468ad488266ba60a2fc70341963fbf3875", func := "github.com/evanw/esbuild/n011_36.FnRecordUsageCountsEveryCall", spec := "fnRecordUsageCountsEveryCall", plainKeys := false, apart := false, narrowed := true }
def FnRecordUsageCountsEveryCallUptoSaid : Prop := fnRecordUsageCountsEveryCallUptoRow.holds Try.pinned (OpenSpec.upto fnRecordUsageCountsEveryCallSpec)

/-- 'n011_310.FnIgnoreDotChainUndoesRecordUsage', WHERE WHAT IT READS IS OF BULK AT MOST 1048576: true; the input reads as it did. -/
def fnIgnoreDotChainUndoesRecordUsageUptoRow : OpenClaim := { program := "ytlehgpnglghlkaa", sum := "edfdf004c25811efb38fd7059b4513468ad488266ba60a2fc70341963fbf3875", func := "github.com/evanw/esbuild/n011_310.FnIgnoreDotChainUndoesRecordUsage", spec := "fnIgnoreDotChainUndoesRecordUsage", plainKeys := false, apart := false, narrowed := true }
def FnIgnoreDotChainUndoesRecordUsageUptoSaid : Prop := fnIgnoreDotChainUndoesRecordUsageUptoRow.holds Try.pinned (OpenSpec.upto fnIgnoreDotChainUndoesRecordUsageSpec)

/-- 'n011_72.FnRecordDeclaredSymbolReverseScript', WHERE WHAT IT READS IS OF BULK AT MOST 1048576: true; the input reads as it did. -/
def fnRecordDeclaredSymbolReverseScriptUptoRow : OpenClaim := { program := "ytlehgpnglghlkaa", sum := "edfdf004c25811efb38fd7059b4513468ad488266ba60a2fc70341963fbf3875", func := "github.com/evanw/esbuild/n011_72.FnRecordDeclaredSymbolReverseScript", spec := "fnRecordDeclaredSymbolReverseScript", plainKeys := false, apart := false, narrowed := true }
def FnRecordDeclaredSymbolReverseScriptUptoSaid : Prop := fnRecordDeclaredSymbolReverseScriptUptoRow.holds Try.pinned (OpenSpec.upto fnRecordDeclaredSymbolReverseScriptSpec)

end Rows
end Go.Proofs.Ytlehgpnglghlkaa
