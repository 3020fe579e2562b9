/-
  No cell of these rows narrows 'for every input' (looked for: loops, veiled, ifaces, maps, wideKeys, modest, calm, conditions, laid).
  DERIVED. THE GIVEN ROWS OF THIS SEAT. 4 by the template 'for every input the law returns true; each argument reads behind the call as it read before'; 0 by the template 'total and deterministic' (their statements: YtgefhkjidldjlacTotals.lean).
  GIVEN WITH THE SEED: the statements are not yours to turn. If you find one false, say at which input.
  Laid BY PROGRAM, IN A SANDBOX (cutbox-rows.mjs): the forced cells as the released guide's own fill.sh prints them over the translation f47e03118968d431… (all of the seat's roots in one cut). By AI agents, Wed Nov 11 2026. No macro, syntax, notation, axiom, sorry.
-/
import Derived.Test.YtgefhkjidldjlacChecked
import GoSem.Claim
import GoSem.ClaimJoined
import GoSem.ClaimMapViews
import Derived.JoinedTies
import Derived.KernelRfl
namespace Go.Proofs.Ytgefhkjidldjlac
/- THE CELL 'sum', in the pinned program and in every row, IS THE sha256 OF THE DUMP (.gsa) THAT YtgefhkjidldjlacProg.lean LOADS. Nothing in Lean hashes anything: it is a label: what it is worth is what the hold of that sum in a sandbox is worth. -/
noncomputable def Try.pinned : Pinned := { name := "ytgefhkjidldjlac", sum := "f47e03118968d43161d9b0f5bbc02549cd001d17afe075b7d5870afee2bef8ba", checked := Try.checked }
namespace Rows
def none {H : Type} : Left H := { results := [], args := [] }

/-- 'n011_107.FnIsUnsightlyPrimitiveCaseTable': WHATEVER THE INPUT: true; the input reads as it did. -/
def fnIsUnsightlyPrimitiveCaseTableSpec : ChangeSpec := { name := "fnIsUnsightlyPrimitiveCaseTable", fn := fun _ => fun
  | [d] => { results := [.lit (.bool true)], args := [d] }
  | _ => none }
def fnIsUnsightlyPrimitiveCaseTableRow : OpenClaim := { program := "ytgefhkjidldjlac", sum := "f47e03118968d43161d9b0f5bbc02549cd001d17afe075b7d5870afee2bef8ba", func := "github.com/evanw/esbuild/n011_107.FnIsUnsightlyPrimitiveCaseTable", spec := "fnIsUnsightlyPrimitiveCaseTable", plainKeys := false, apart := false }
def FnIsUnsightlyPrimitiveCaseTableSaid : Prop := fnIsUnsightlyPrimitiveCaseTableRow.holds Try.pinned (OpenSpec.ofChange fnIsUnsightlyPrimitiveCaseTableSpec)

/-- ITS FALSE NEIGHBOUR: 'it returns false'. Refute it at one input. -/
def fnIsUnsightlyPrimitiveCaseTableWrong : ChangeSpec := { name := "fnIsUnsightlyPrimitiveCaseTable", fn := fun _ => fun
  | [d] => { results := [.lit (.bool false)], args := [d] }
  | _ => none }
def FnIsUnsightlyPrimitiveCaseTableWrongFalsely : Prop := fnIsUnsightlyPrimitiveCaseTableRow.holds Try.pinned (OpenSpec.ofChange fnIsUnsightlyPrimitiveCaseTableWrong)

/-- 'n011_56.FnIsValidAssignmentTargetMembersAndPatternsAgree': WHATEVER THE INPUT: true; the input reads as it did. -/
def fnIsValidAssignmentTargetMembersAndPatternsAgreeSpec : ChangeSpec := { name := "fnIsValidAssignmentTargetMembersAndPatternsAgree", fn := fun _ => fun
  | [d1, d2] => { results := [.lit (.bool true)], args := [d1, d2] }
  | _ => none }
def fnIsValidAssignmentTargetMembersAndPatternsAgreeRow : OpenClaim := { program := "ytgefhkjidldjlac", sum := "f47e03118968d43161d9b0f5bbc02549cd001d17afe075b7d5870afee2bef8ba", func := "github.com/evanw/esbuild/n011_56.FnIsValidAssignmentTargetMembersAndPatternsAgree", spec := "fnIsValidAssignmentTargetMembersAndPatternsAgree", plainKeys := false, apart := false }
def FnIsValidAssignmentTargetMembersAndPatternsAgreeSaid : Prop := fnIsValidAssignmentTargetMembersAndPatternsAgreeRow.holds Try.pinned (OpenSpec.ofChange fnIsValidAssignmentTargetMembersAndPatternsAgreeSpec)

/-- ITS FALSE NEIGHBOUR: 'it returns false'. Refute it at one input. -/
def fnIsValidAssignmentTargetMembersAndPatternsAgreeWrong : ChangeSpec := { name := "fnIsValidAssignmentTargetMembersAndPatternsAgree", fn := fun _ => fun
  | [d1, d2] => { results := [.lit (.bool false)], args := [d1, d2] }
  | _ => none }
def FnIsValidAssignmentTargetMembersAndPatternsAgreeWrongFalsely : Prop := fnIsValidAssignmentTargetMembersAndPatternsAgreeRow.holds Try.pinned (OpenSpec.ofChange fnIsValidAssignmentTargetMembersAndPatternsAgreeWrong)

/-- 'n011_271.FnScopeMemberArraySwapExchangesExactlyTwo': WHATEVER THE INPUT: true; the input reads as it did. -/
def fnScopeMemberArraySwapExchangesExactlyTwoSpec : ChangeSpec := { name := "fnScopeMemberArraySwapExchangesExactlyTwo", fn := fun _ => fun
  | [d1, d2, d3, d4, d5] => { results := [.lit (.bool true)], args := [d1, d2, d3, d4, d5] }
  | _ => none }
def fnScopeMemberArraySwapExchangesExactlyTwoRow : OpenClaim := { program := "ytgefhkjidldjlac", sum := "f47e03118968d43161d9b0f5bbc02549cd001d17afe075b7d5870afee2bef8ba", func := "github.com/evanw/esbuild/n011_271.FnScopeMemberArraySwapExchangesExactlyTwo", spec := "fnScopeMemberArraySwapExchangesExactlyTwo", plainKeys := false, apart := false }
def FnScopeMemberArraySwapExchangesExactlyTwoSaid : Prop := fnScopeMemberArraySwapExchangesExactlyTwoRow.holds Try.pinned (OpenSpec.ofChange fnScopeMemberArraySwapExchangesExactlyTwoSpec)

/-- ITS FALSE NEIGHBOUR: 'it returns false'. Refute it at one input. -/
def fnScopeMemberArraySwapExchangesExactlyTwoWrong : ChangeSpec := { name := "fnScopeMemberArraySwapExchangesExactlyTwo", fn := fun _ => fun
  | [d1, d2, d3, d4, d5] => { results := [.lit (.bool false)], args := [d1, d2, d3, d4, d5] }
  | _ => none }
def FnScopeMemberArraySwapExchangesExactlyTwoWrongFalsely : Prop := fnScopeMemberArraySwapExchangesExactlyTwoRow.holds Try.pinned (OpenSpec.ofChange fnScopeMemberArraySwapExchangesExactlyTwoWrong)

/-- 'n011_266.FnMarkExprAsParenthesizedFlagIsShallow': WHATEVER THE INPUT: true; the input reads as it did. -/
def fnMarkExprAsParenthesizedFlagIsShallowSpec : ChangeSpec := { name := "fnMarkExprAsParenthesizedFlagIsShallow", fn := fun _ => fun
  | [d1, d2, d3] => { results := [.lit (.bool true)], args := [d1, d2, d3] }
  | _ => none }
def fnMarkExprAsParenthesizedFlagIsShallowRow : OpenClaim := { program := "ytgefhkjidldjlac", sum := "f47e03118968d43161d9b0f5bbc02549cd001d17afe075b7d5870afee2bef8ba", func := "github.com/evanw/esbuild/n011_266.FnMarkExprAsParenthesizedFlagIsShallow", spec := "fnMarkExprAsParenthesizedFlagIsShallow", plainKeys := false, apart := false }
def FnMarkExprAsParenthesizedFlagIsShallowSaid : Prop := fnMarkExprAsParenthesizedFlagIsShallowRow.holds Try.pinned (OpenSpec.ofChange fnMarkExprAsParenthesizedFlagIsShallowSpec)

/-- ITS FALSE NEIGHBOUR: 'it returns false'. Refute it at one input. -/
def fnMarkExprAsParenthesizedFlagIsShallowWrong : ChangeSpec := { name := "fnMarkExprAsParenthesizedFlagIsShallow", fn := fun _ => fun
  | [d1, d2, d3] => { results := [.lit (.bool false)], args := [d1, d2, d3] }
  | _ => none }
def FnMarkExprAsParenthesizedFlagIsShallowWrongFalsely : Prop := fnMarkExprAsParenthesizedFlagIsShallowRow.holds Try.pinned (OpenSpec.ofChange fnMarkExprAsParenthesizedFlagIsShallowWrong)

/- THE SECOND FORM. 'bulk': how many values and letters a reading holds, each counted each time it is reached (what is shared counts as often as it is met; a slice's spare places count too). A statement '..UptoSaid' is the law's where the arguments, and the package variables that the reading takes, are together of bulk at most 1048576: NARROWER than '..Said'. Prove '..Said' where nothing that the law and all that it calls make is longer than what came in: it says more and counts as full. Else prove '..UptoSaid'. A law counts once. -/
mutual
def uptoBulk {H : Type} : DataW H → Nat
  | .lit (.string bytes) => bytes.length + 1
  | .lit _ => 1
  | .nil => 1
  | .ptr d => uptoBulk d + 1
  | .slice elems spare => uptoBulkAll elems + uptoBulkAll spare + 1
  | .agg parts => uptoBulkAll parts + 1
  | .iface _ d => uptoBulk d + 1
  | .map entries => uptoBulkEntries entries + 1
  | .held _ => 1
def uptoBulkAll {H : Type} : List (DataW H) → Nat
  | [] => 0
  | d :: r => uptoBulk d + uptoBulkAll r
def uptoBulkEntries {H : Type} : List (Lit × DataW H) → Nat
  | [] => 0
  | x :: r => uptoBulkEntry x + uptoBulkEntries r
def uptoBulkEntry {H : Type} : Lit × DataW H → Nat
  | (.string bytes, d) => bytes.length + uptoBulk d + 1
  | (_, d) => uptoBulk d + 1
 end
def uptoSmall : (H : Type) → List (DataW H) → Bool := fun _ ds => decide (uptoBulkAll ds ≤ 1048576)
def OpenSpec.upto (s : _root_.Go.ChangeSpec) : _root_.Go.OpenSpec := { _root_.Go.OpenSpec.ofChange s with cond := some uptoSmall }

/-- 'n011_107.FnIsUnsightlyPrimitiveCaseTable', WHERE WHAT IT READS IS OF BULK AT MOST 1048576: true; the input reads as it did. -/
def fnIsUnsightlyPrimitiveCaseTableUptoRow : OpenClaim := { program := "ytgefhkjidldjlac", sum := "f47e03118968d43161d9b0f5bbc02549cd001d17afe075b7d5870afee2bef8ba", func := "github.com/evanw/esbuild/n011_107.FnIsUnsightlyPrimitiveCaseTable", spec := "fnIsUnsightlyPrimitiveCaseTable", plainKeys := false, apart := false, narrowed := true }
def FnIsUnsightlyPrimitiveCaseTableUptoSaid : Prop := fnIsUnsightlyPrimitiveCaseTableUptoRow.holds Try.pinned (OpenSpec.upto fnIsUnsightlyPrimitiveCaseTableSpec)

/-- 'n011_56.FnIsValidAssignmentTargetMembersAndPatternsAgree', WHERE WHAT IT READS IS OF BULK AT MOST 1048576: true; the input reads as it did. -/
def fnIsValidAssignmentTargetMembersAndPatternsAgreeUptoRow : OpenClaim := { program := "ytgefhkjidldjlac", sum := "f47e03118968d43161d9b0f5bbc02549cd001d17afe075b7d5870afee2bef8ba", func := "github.com/evanw/esbuild/n011_56.FnIsValidAssignmentTargetMembersAndPatternsAgree", spec := "fnIsValidAssignmentTargetMembersAndPatternsAgree", plainKeys := false, apart := false, narrowed := true }
def FnIsValidAssignmentTargetMembersAndPatternsAgreeUptoSaid : Prop := fnIsValidAssignmentTargetMembersAndPatternsAgreeUptoRow.holds Try.pinned (OpenSpec.upto fnIsValidAssignmentTargetMembersAndPatternsAgreeSpec)

/-- 'n011_271.FnScopeMemberArraySwapExchangesExactlyTwo', WHERE WHAT IT READS IS OF BULK AT MOST 1048576: true; the input reads as it did. -/
def fnScopeMemberArraySwapExchangesExactlyTwoUptoRow : OpenClaim := { program := "ytgefhkjidldjlac", sum := "f47e03118968d43161d9b0f5bbc02549cd001d17afe075b7d5870afee2bef8ba", func := "github.com/evanw/esbuild/n011_271.FnScopeMemberArraySwapExchangesExactlyTwo", spec := "fnScopeMemberArraySwapExchangesExactlyTwo", plainKeys := false, apart := false, narrowed := true }
def FnScopeMemberArraySwapExchangesExactlyTwoUptoSaid : Prop := fnScopeMemberArraySwapExchangesExactlyTwoUptoRow.holds Try.pinned (OpenSpec.upto fnScopeMemberArraySwapExchangesExactlyTwoSpec)

/-- 'n011_266.FnMarkExprAsParenthesizedFlagIsShallow', WHERE WHAT IT READS IS OF BULK AT MOST 1048576: true; the input reads as it did. -/
def fnMarkExprAsParenthesizedFlagIsShallowUptoRow : OpenClaim := { program := "ytgefhkjidldjlac", sum := "f47e03118968d43161d9b0f5bbc02549cd001d17afe075b7d5870afee2bef8ba", func := "github.com/evanw/esbuild/n011_266.FnMarkExprAsParenthesizedFlagIsShallow", spec := "fnMarkExprAsParenthesizedFlagIsShallow", plainKeys := false, apart := false, narrowed := true }
def FnMarkExprAsParenthesizedFlagIsShallowUptoSaid : Prop := fnMarkExprAsParenthesizedFlagIsShallowUptoRow.holds Try.pinned (OpenSpec.upto fnMarkExprAsParenthesizedFlagIsShallowSpec)

end Rows
end Go.Proofs.Ytgefhkjidldjlac
