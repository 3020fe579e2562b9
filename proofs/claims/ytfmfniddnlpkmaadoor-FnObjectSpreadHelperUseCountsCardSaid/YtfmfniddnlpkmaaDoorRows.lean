/-
  NARROWER THAN 'FOR EVERY INPUT', by the rows' own cells (each row's printed sentence says how): FnValueForImportMetaStableAcrossCalls: laid · FnCheckUnusedTSImportEqualsFrame: laid · FnObjectSpreadHelperUseCounts: laid.
  DERIVED. THE GIVEN ROWS OF THIS SEAT. 3 by the template 'for every input the law returns true; each argument reads behind the call as it read before'; 0 by the template 'total and deterministic' (their statements: YtfmfniddnlpkmaaDoorTotals.lean).
  GIVEN WITH THE SEED: the statements are not yours to turn. If you find one false, say at which input.
  Laid BY PROGRAM, IN A SANDBOX (cutbox-rows.mjs): the forced cells as the released guide's own fill.sh prints them over the translation 861b48353a6d4aee… (all of the seat's roots in one cut). By AI agents, Wed Nov 11 2026. No macro, syntax, notation, axiom, sorry.
-/
import Derived.Test.YtfmfniddnlpkmaaDoorChecked
import GoSem.Claim
import GoSem.ClaimJoined
import GoSem.ClaimMapViews
import Derived.JoinedTies
import Derived.KernelRfl
namespace Go.Proofs.YtfmfniddnlpkmaaDoor
/- THE CELL 'sum', in the pinned program and in every row, IS THE sha256 OF THE DUMP (.gsa) THAT YtfmfniddnlpkmaaDoorProg.lean LOADS. Nothing in Lean hashes anything: it is a label: what it is worth is what the hold of that sum in a sandbox is worth. -/
noncomputable def Tryd.pinned : Pinned := { name := "ytfmfniddnlpkmaadoor", sum := "861b48353a6d4aee8cf7b0f4a83e9d273a98638c86a0f2e05635bdbddcfbca3c", checked := Tryd.checked }
namespace Rows
def none {H : Type} : Left H := { results := [], args := [] }

/- WHAT THE LISTED PACKAGE-LEVEL VARIABLES READ AS WHEN THE CALL BEGINS. Each datum BY PROGRAM (the guide's laid-datum.mjs) off the statement by which the dump's own 'gosem.cut.vars' lays the variable. In a bare row this is a premise. The card (YtfmfniddnlpkmaaDoorCards.lean) ties it to the program's text. -/
def laid_github_com_evanw_esbuild_internal_ast_InvalidRef {H : Type} : DataW H := .agg [.lit (.int .u32 4294967295), .lit (.int .u32 4294967295)]

/-- 'n011_118.FnValueForImportMetaStableAcrossCalls': WHATEVER THE INPUT: true; the input reads as it did. -/
def fnValueForImportMetaStableAcrossCallsSpec : ChangeSpec := { name := "fnValueForImportMetaStableAcrossCalls", vars := ["github.com/evanw/esbuild/internal/ast.InvalidRef"], fn := fun _ => fun
  | [d1, d2, d3, d4, d5, d6, d7, d8, g1] => { results := [.lit (.bool true)], args := [d1, d2, d3, d4, d5, d6, d7, d8], vars := [g1] }
  | _ => none }
def fnValueForImportMetaStableAcrossCallsRow : OpenClaim := { program := "ytfmfniddnlpkmaadoor", sum := "861b48353a6d4aee8cf7b0f4a83e9d273a98638c86a0f2e05635bdbddcfbca3c", func := "github.com/evanw/esbuild/n011_118.FnValueForImportMetaStableAcrossCalls", spec := "fnValueForImportMetaStableAcrossCalls", named := ["github.com/evanw/esbuild/internal/ast.InvalidRef"], plainKeys := false, apart := false, laid := [("github.com/evanw/esbuild/internal/ast.InvalidRef", laid_github_com_evanw_esbuild_internal_ast_InvalidRef)] }
def FnValueForImportMetaStableAcrossCallsSaid : Prop := fnValueForImportMetaStableAcrossCallsRow.holds Tryd.pinned (OpenSpec.ofChange fnValueForImportMetaStableAcrossCallsSpec)

/-- ITS FALSE NEIGHBOUR: 'it returns false'. Refute it at one input. -/
def fnValueForImportMetaStableAcrossCallsWrong : ChangeSpec := { name := "fnValueForImportMetaStableAcrossCalls", vars := ["github.com/evanw/esbuild/internal/ast.InvalidRef"], fn := fun _ => fun
  | [d1, d2, d3, d4, d5, d6, d7, d8, g1] => { results := [.lit (.bool false)], args := [d1, d2, d3, d4, d5, d6, d7, d8], vars := [g1] }
  | _ => none }
def FnValueForImportMetaStableAcrossCallsWrongFalsely : Prop := fnValueForImportMetaStableAcrossCallsRow.holds Tryd.pinned (OpenSpec.ofChange fnValueForImportMetaStableAcrossCallsWrong)

/-- 'n011_124.FnCheckUnusedTSImportEqualsFrame': WHATEVER THE INPUT: true; the input reads as it did. -/
def fnCheckUnusedTSImportEqualsFrameSpec : ChangeSpec := { name := "fnCheckUnusedTSImportEqualsFrame", vars := ["github.com/evanw/esbuild/internal/ast.InvalidRef"], fn := fun _ => fun
  | [d1, d2, d3, d4, d5, d6, g1] => { results := [.lit (.bool true)], args := [d1, d2, d3, d4, d5, d6], vars := [g1] }
  | _ => none }
def fnCheckUnusedTSImportEqualsFrameRow : OpenClaim := { program := "ytfmfniddnlpkmaadoor", sum := "861b48353a6d4aee8cf7b0f4a83e9d273a98638c86a0f2e05635bdbddcfbca3c", func := "github.com/evanw/esbuild/n011_124.FnCheckUnusedTSImportEqualsFrame", spec := "fnCheckUnusedTSImportEqualsFrame", named := ["github.com/evanw/esbuild/internal/ast.InvalidRef"], plainKeys := false, apart := false, laid := [("github.com/evanw/esbuild/internal/ast.InvalidRef", laid_github_com_evanw_esbuild_internal_ast_InvalidRef)] }
def FnCheckUnusedTSImportEqualsFrameSaid : Prop := fnCheckUnusedTSImportEqualsFrameRow.holds Tryd.pinned (OpenSpec.ofChange fnCheckUnusedTSImportEqualsFrameSpec)

/-- ITS FALSE NEIGHBOUR: 'it returns false'. Refute it at one input. -/
def fnCheckUnusedTSImportEqualsFrameWrong : ChangeSpec := { name := "fnCheckUnusedTSImportEqualsFrame", vars := ["github.com/evanw/esbuild/internal/ast.InvalidRef"], fn := fun _ => fun
  | [d1, d2, d3, d4, d5, d6, g1] => { results := [.lit (.bool false)], args := [d1, d2, d3, d4, d5, d6], vars := [g1] }
  | _ => none }
def FnCheckUnusedTSImportEqualsFrameWrongFalsely : Prop := fnCheckUnusedTSImportEqualsFrameRow.holds Tryd.pinned (OpenSpec.ofChange fnCheckUnusedTSImportEqualsFrameWrong)

/-- 'n011_249.FnObjectSpreadHelperUseCounts': WHATEVER THE INPUT: true; the input reads as it did. -/
def fnObjectSpreadHelperUseCountsSpec : ChangeSpec := { name := "fnObjectSpreadHelperUseCounts", vars := ["github.com/evanw/esbuild/internal/ast.InvalidRef"], fn := fun _ => fun
  | [d1, d2, d3, d4, g1] => { results := [.lit (.bool true)], args := [d1, d2, d3, d4], vars := [g1] }
  | _ => none }
def fnObjectSpreadHelperUseCountsRow : OpenClaim := { program := "ytfmfniddnlpkmaadoor", sum := "861b48353a6d4aee8cf7b0f4a83e9d273a98638c86a0f2e05635bdbddcfbca3c", func := "github.com/evanw/esbuild/n011_249.FnObjectSpreadHelperUseCounts", spec := "fnObjectSpreadHelperUseCounts", named := ["github.com/evanw/esbuild/internal/ast.InvalidRef"], plainKeys := false, apart := false, laid := [("github.com/evanw/esbuild/internal/ast.InvalidRef", laid_github_com_evanw_esbuild_internal_ast_InvalidRef)] }
def FnObjectSpreadHelperUseCountsSaid : Prop := fnObjectSpreadHelperUseCountsRow.holds Tryd.pinned (OpenSpec.ofChange fnObjectSpreadHelperUseCountsSpec)

/-- ITS FALSE NEIGHBOUR: 'it returns false'. Refute it at one input. -/
def fnObjectSpreadHelperUseCountsWrong : ChangeSpec := { name := "fnObjectSpreadHelperUseCounts", vars := ["github.com/evanw/esbuild/internal/ast.InvalidRef"], fn := fun _ => fun
  | [d1, d2, d3, d4, g1] => { results := [.lit (.bool false)], args := [d1, d2, d3, d4], vars := [g1] }
  | _ => none }
def FnObjectSpreadHelperUseCountsWrongFalsely : Prop := fnObjectSpreadHelperUseCountsRow.holds Tryd.pinned (OpenSpec.ofChange fnObjectSpreadHelperUseCountsWrong)

/- THE SECOND FORM. 'bulk': how many values and letters a reading holds, each counted each time it is reached (what is shared counts as often as it is met; a slice's spare places count too). A statement '..UptoSaid' is the law's where the arguments, and the package variables that the reading takes, are together of bulk at most 1048576: NARROWER than '..Said'. Prove '..Said' where nothing that the law and all that it calls make is longer than what came in: it says more and counts as full. Else prove '..UptoSaid'. A law counts once. -/
mutual
def uptoBulk {H : Type} : DataW H → Nat
  | .lit (.string bytes) => bytes.length + 1
  | .lit _ => 1
  | .nil => 1
  | .ptr d => uptoBulk d + 1
  | .slice elems spare => uptoBulkAll elems + uptoBulkAll spare + 1
  | .agg parts => uptoBulkAll parts + 1
  | .iface _ d => uptoBulk d + 1
  | .map entries => uptoBulkEntries entries + 1
  | .held _ => 1
def uptoBulkAll {H : Type} : List (DataW H) → Nat
  | [] => 0
  | d :: r => uptoBulk d + uptoBulkAll r
def uptoBulkEntries {H : Type} : List (Lit × DataW H) → Nat
  | [] => 0
  | x :: r => uptoBulkEntry x + uptoBulkEntries r
def uptoBulkEntry {H : Type} : Lit × DataW H → Nat
  | (.string bytes, d) => bytes.length + uptoBulk d + 1
  | (_, d) => uptoBulk d + 1
 end
def uptoSmall : (H : Type) → List (DataW H) → Bool := fun _ ds => decide (uptoBulkAll ds ≤ 1048576)
def OpenSpec.upto (s : _root_.Go.ChangeSpec) : _root_.Go.OpenSpec := { _root_.Go.OpenSpec.ofChange s with cond := some uptoSmall }

/-- 'n011_118.FnValueForImportMetaStableAcrossCalls', WHERE WHAT IT READS IS OF BULK AT MOST 1048576: true; the input reads as it did. -/
def fnValueForImportMetaStableAcrossCallsUptoRow : OpenClaim := { program := "ytfmfniddnlpkmaadoor", sum := "861b48353a6d4aee8cf7b0f4a83e9d273a98638c86a0f2e05635bdbddcfbca3c", func := "github.com/evanw/esbuild/n011_118.FnValueForImportMetaStableAcrossCalls", spec := "fnValueForImportMetaStableAcrossCalls", named := ["github.com/evanw/esbuild/internal/ast.InvalidRef"], plainKeys := false, apart := false, laid := [("github.com/evanw/esbuild/internal/ast.InvalidRef", laid_github_com_evanw_esbuild_internal_ast_InvalidRef)], narrowed := true }
def FnValueForImportMetaStableAcrossCallsUptoSaid : Prop := fnValueForImportMetaStableAcrossCallsUptoRow.holds Tryd.pinned (OpenSpec.upto fnValueForImportMetaStableAcrossCallsSpec)

/-- 'n011_124.FnCheckUnusedTSImportEqualsFrame', WHERE WHAT IT READS IS OF BULK AT MOST 1048576: true; the input reads as it did. -/
def fnCheckUnusedTSImportEqualsFrameUptoRow : OpenClaim := { program := "ytfmfniddnlpkmaadoor", sum := "861b48353a6d4aee8cf7b0f4a83e9d273a98638c86a0f2e05635bdbddcfbca3c", func := "github.com/evanw/esbuild/n011_124.FnCheckUnusedTSImportEqualsFrame", spec := "fnCheckUnusedTSImportEqualsFrame", named := ["github.com/evanw/esbuild/internal/ast.InvalidRef"], plainKeys := false, apart := false, laid := [("github.com/evanw/esbuild/internal/ast.InvalidRef", laid_github_com_evanw_esbuild_internal_ast_InvalidRef)], narrowed := true }
def FnCheckUnusedTSImportEqualsFrameUptoSaid : Prop := fnCheckUnusedTSImportEqualsFrameUptoRow.holds Tryd.pinned (OpenSpec.upto fnCheckUnusedTSImportEqualsFrameSpec)

/-- 'n011_249.FnObjectSpreadHelperUseCounts', WHERE WHAT IT READS IS OF BULK AT MOST 1048576: true; the input reads as it did. -/
def fnObjectSpreadHelperUseCountsUptoRow : OpenClaim := { program := "ytfmfniddnlpkmaadoor", sum := "861b48353a6d4aee8cf7b0f4a83e9d273a98638c86a0f2e05635bdbddcfbca3c", func := "github.com/evanw/esbuild/n011_249.FnObjectSpreadHelperUseCounts", spec := "fnObjectSpreadHelperUseCounts", named := ["github.com/evanw/esbuild/internal/ast.InvalidRef"], plainKeys := false, apart := false, laid := [("github.com/evanw/esbuild/internal/ast.InvalidRef", laid_github_com_evanw_esbuild_internal_ast_InvalidRef)], narrowed := true }
def FnObjectSpreadHelperUseCountsUptoSaid : Prop := fnObjectSpreadHelperUseCountsUptoRow.holds Tryd.pinned (OpenSpec.upto fnObjectSpreadHelperUseCountsSpec)

end Rows
end Go.Proofs.YtfmfniddnlpkmaaDoor
