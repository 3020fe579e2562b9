/-
  No cell of these rows narrows 'for every input' (looked for: loops, veiled, ifaces, maps, wideKeys, modest, calm, conditions, laid).
  DERIVED. THE GIVEN ROWS OF THIS SEAT. 3 by the template 'for every input the law returns true; each argument reads behind the call as it read before'; 0 by the template 'total and deterministic' (their statements: YtmbbabikbmkjpaaTotals.lean).
  GIVEN WITH THE SEED: the statements are not yours to turn. If you find one false, say at which input.
  Laid BY PROGRAM, IN A SANDBOX (cutbox-rows.mjs): the forced cells as the released guide's own fill.sh prints them over the translation c1bac01d5f16dfe3… (all of the seat's roots in one cut). By AI agents, Wed Nov 11 2026. No macro, syntax, notation, axiom, sorry.
-/
import Derived.Test.YtmbbabikbmkjpaaChecked
import GoSem.Claim
import GoSem.ClaimJoined
import GoSem.ClaimMapViews
import Derived.JoinedTies
import Derived.KernelRfl
namespace Go.Proofs.Ytmbbabikbmkjpaa
/- THE CELL 'sum', in the pinned program and in every row, IS THE sha256 OF THE DUMP (.gsa) THAT YtmbbabikbmkjpaaProg.lean LOADS. Nothing in Lean hashes anything: it is a label: what it is worth is what the hold of that sum in a sandbox is worth. -/
noncomputable def Try.pinned : Pinned := { name := "ytmbbabikbmkjpaa", sum := "c1bac01d5f16dfe3e58565ce8d226a9a4a29af55fc9a994efc252ff1a3b80fdb", checked := Try.checked }
namespace Rows
def none {H : Type} : Left H := { results := [], args := [] }

/-- 'n011_271.FnScopeMemberArraySwapExchangesExactlyTwo': WHATEVER THE INPUT: true; the input reads as it did. -/
def fnScopeMemberArraySwapExchangesExactlyTwoSpec : ChangeSpec := { name := "fnScopeMemberArraySwapExchangesExactlyTwo", fn := fun _ => fun
  | [d1, d2, d3, d4, d5] => { results := [.lit (.bool true)], args := [d1, d2, d3, d4, d5] }
  | _ => none }
def fnScopeMemberArraySwapExchangesExactlyTwoRow : OpenClaim := { program := "ytmbbabikbmkjpaa", sum := "c1bac01d5f16dfe3e58565ce8d226a9a4a29af55fc9a994efc252ff1a3b80fdb", func := "github.com/evanw/esbuild/n011_271.FnScopeMemberArraySwapExchangesExactlyTwo", spec := "fnScopeMemberArraySwapExchangesExactlyTwo", apart := false }
def FnScopeMemberArraySwapExchangesExactlyTwoSaid : Prop := fnScopeMemberArraySwapExchangesExactlyTwoRow.holds Try.pinned (OpenSpec.ofChange fnScopeMemberArraySwapExchangesExactlyTwoSpec)

/-- ITS FALSE NEIGHBOUR: 'it returns false'. Refute it at one input. -/
def fnScopeMemberArraySwapExchangesExactlyTwoWrong : ChangeSpec := { name := "fnScopeMemberArraySwapExchangesExactlyTwo", fn := fun _ => fun
  | [d1, d2, d3, d4, d5] => { results := [.lit (.bool false)], args := [d1, d2, d3, d4, d5] }
  | _ => none }
def FnScopeMemberArraySwapExchangesExactlyTwoWrongFalsely : Prop := fnScopeMemberArraySwapExchangesExactlyTwoRow.holds Try.pinned (OpenSpec.ofChange fnScopeMemberArraySwapExchangesExactlyTwoWrong)

/-- 'n011_91.FnMappingLessSwapSortStable': WHATEVER THE INPUT: true; the input reads as it did. -/
def fnMappingLessSwapSortStableSpec : ChangeSpec := { name := "fnMappingLessSwapSortStable", fn := fun _ => fun
  | [d1, d2] => { results := [.lit (.bool true)], args := [d1, d2] }
  | _ => none }
def fnMappingLessSwapSortStableRow : OpenClaim := { program := "ytmbbabikbmkjpaa", sum := "c1bac01d5f16dfe3e58565ce8d226a9a4a29af55fc9a994efc252ff1a3b80fdb", func := "github.com/evanw/esbuild/n011_91.FnMappingLessSwapSortStable", spec := "fnMappingLessSwapSortStable", apart := false }
def FnMappingLessSwapSortStableSaid : Prop := fnMappingLessSwapSortStableRow.holds Try.pinned (OpenSpec.ofChange fnMappingLessSwapSortStableSpec)

/-- ITS FALSE NEIGHBOUR: 'it returns false'. Refute it at one input. -/
def fnMappingLessSwapSortStableWrong : ChangeSpec := { name := "fnMappingLessSwapSortStable", fn := fun _ => fun
  | [d1, d2] => { results := [.lit (.bool false)], args := [d1, d2] }
  | _ => none }
def FnMappingLessSwapSortStableWrongFalsely : Prop := fnMappingLessSwapSortStableRow.holds Try.pinned (OpenSpec.ofChange fnMappingLessSwapSortStableWrong)

/-- 'n011_266.FnIsSafeForConstLocalPrefixConcat': WHATEVER THE INPUT: true; the input reads as it did. -/
def fnIsSafeForConstLocalPrefixConcatSpec : ChangeSpec := { name := "fnIsSafeForConstLocalPrefixConcat", fn := fun _ => fun
  | [d1, d2, d3] => { results := [.lit (.bool true)], args := [d1, d2, d3] }
  | _ => none }
def fnIsSafeForConstLocalPrefixConcatRow : OpenClaim := { program := "ytmbbabikbmkjpaa", sum := "c1bac01d5f16dfe3e58565ce8d226a9a4a29af55fc9a994efc252ff1a3b80fdb", func := "github.com/evanw/esbuild/n011_266.FnIsSafeForConstLocalPrefixConcat", spec := "fnIsSafeForConstLocalPrefixConcat", recurses := true, apart := false }
def FnIsSafeForConstLocalPrefixConcatSaid : Prop := fnIsSafeForConstLocalPrefixConcatRow.holds Try.pinned (OpenSpec.ofChange fnIsSafeForConstLocalPrefixConcatSpec)

/-- ITS FALSE NEIGHBOUR: 'it returns false'. Refute it at one input. -/
def fnIsSafeForConstLocalPrefixConcatWrong : ChangeSpec := { name := "fnIsSafeForConstLocalPrefixConcat", fn := fun _ => fun
  | [d1, d2, d3] => { results := [.lit (.bool false)], args := [d1, d2, d3] }
  | _ => none }
def FnIsSafeForConstLocalPrefixConcatWrongFalsely : Prop := fnIsSafeForConstLocalPrefixConcatRow.holds Try.pinned (OpenSpec.ofChange fnIsSafeForConstLocalPrefixConcatWrong)

/- THE SECOND FORM. 'bulk': how many values and letters a reading holds, each counted each time it is reached (what is shared counts as often as it is met; a slice's spare places count too). A statement '..UptoSaid' is the law's where the arguments, and the package variables that the reading takes, are together of bulk at most 1048576: NARROWER than '..Said'. Prove '..Said' where nothing that the law and all that it calls make is longer than what came in: it says more and counts as full. Else prove '..UptoSaid'. A law counts once. -/
mutual
def uptoBulk {H : Type} : DataW H → Nat
  | .lit (.string bytes) => bytes.length + 1
  | .lit _ => 1
  | .nil => 1
  | .ptr d => uptoBulk d + 1
  | .slice elems spare => uptoBulkAll elems + uptoBulkAll spare + 1
  | .agg parts => uptoBulkAll parts + 1
  | .iface _ d => uptoBulk d + 1
  | .map entries => uptoBulkEntries entries + 1
  | .held _ => 1
def uptoBulkAll {H : Type} : List (DataW H) → Nat
  | [] => 0
  | d :: r => uptoBulk d + uptoBulkAll r
def uptoBulkEntries {H : Type} : List (Lit × DataW H) → Nat
  | [] => 0
  | x :: r => uptoBulkEntry x + uptoBulkEntries r
def uptoBulkEntry {H : Type} : Lit × DataW H → Nat
  | (.string bytes, d) => bytes.length + uptoBulk d + 1
  | (_, d) => uptoBulk d + 1
 end
def uptoSmall : (H : Type) → List (DataW H) → Bool := fun _ ds => decide (uptoBulkAll ds ≤ 1048576)
def OpenSpec.upto (s : _root_.Go.ChangeSpec) : _root_.Go.OpenSpec := { _root_.Go.OpenSpec.ofChange s with cond := some uptoSmall }

/-- 'n011_271.FnScopeMemberArraySwapExchangesExactlyTwo', WHERE WHAT IT READS IS OF BULK AT MOST 1048576: true; the input reads as it did. -/
def fnScopeMemberArraySwapExchangesExactlyTwoUptoRow : OpenClaim := { program := "ytmbbabikbmkjpaa", sum := "c1bac01d5f16dfe3e58565ce8d226a9a4a29af55fc9a994efc252ff1a3b80fdb", func := "github.com/evanw/esbuild/n011_271.FnScopeMemberArraySwapExchangesExactlyTwo", spec := "fnScopeMemberArraySwapExchangesExactlyTwo", apart := false, narrowed := true }
def FnScopeMemberArraySwapExchangesExactlyTwoUptoSaid : Prop := fnScopeMemberArraySwapExchangesExactlyTwoUptoRow.holds Try.pinned (OpenSpec.upto fnScopeMemberArraySwapExchangesExactlyTwoSpec)

/-- 'n011_91.FnMappingLessSwapSortStable', WHERE WHAT IT READS IS OF BULK AT MOST 1048576: true; the input reads as it did. -/
def fnMappingLessSwapSortStableUptoRow : OpenClaim := { program := "ytmbbabikbmkjpaa", sum := "c1bac01d5f16dfe3e58565ce8d226a9a4a29af55fc9a994efc252ff1a3b80fdb", func := "github.com/evanw/esbuild/n011_91.FnMappingLessSwapSortStable", spec := "fnMappingLessSwapSortStable", apart := false, narrowed := true }
def FnMappingLessSwapSortStableUptoSaid : Prop := fnMappingLessSwapSortStableUptoRow.holds Try.pinned (OpenSpec.upto fnMappingLessSwapSortStableSpec)

/-- 'n011_266.FnIsSafeForConstLocalPrefixConcat', WHERE WHAT IT READS IS OF BULK AT MOST 1048576: true; the input reads as it did. -/
def fnIsSafeForConstLocalPrefixConcatUptoRow : OpenClaim := { program := "ytmbbabikbmkjpaa", sum := "c1bac01d5f16dfe3e58565ce8d226a9a4a29af55fc9a994efc252ff1a3b80fdb", func := "github.com/evanw/esbuild/n011_266.FnIsSafeForConstLocalPrefixConcat", spec := "fnIsSafeForConstLocalPrefixConcat", recurses := true, apart := false, narrowed := true }
def FnIsSafeForConstLocalPrefixConcatUptoSaid : Prop := fnIsSafeForConstLocalPrefixConcatUptoRow.holds Try.pinned (OpenSpec.upto fnIsSafeForConstLocalPrefixConcatSpec)

end Rows
end Go.Proofs.Ytmbbabikbmkjpaa
