/-
  No cell of these rows narrows 'for every input' (looked for: loops, veiled, ifaces, maps, wideKeys, modest, calm, conditions, laid).
  DERIVED. THE GIVEN ROWS OF THIS SEAT. 6 by the template 'for every input the law returns true; each argument reads behind the call as it read before'; 0 by the template 'total and deterministic' (their statements: YtnadpkjdaoehnaaTotals.lean).
  GIVEN WITH THE SEED: the statements are not yours to turn. If you find one false, say at which input.
  Laid BY PROGRAM, IN A SANDBOX (cutbox-rows.mjs): the forced cells as the released guide's own fill.sh prints them over the translation 89b10f4ba42bb836… (all of the seat's roots in one cut). By AI agents, Wed Nov 11 2026. No macro, syntax, notation, axiom, sorry.
-/
import Derived.Test.YtnadpkjdaoehnaaChecked
import GoSem.Claim
import GoSem.ClaimJoined
import GoSem.ClaimMapViews
import Derived.JoinedTies
import Derived.KernelRfl
namespace Go.Proofs.Ytnadpkjdaoehnaa
/- THE CELL 'sum', in the pinned program and in every row, IS THE sha256 OF THE DUMP (.gsa) THAT YtnadpkjdaoehnaaProg.lean LOADS. Nothing in Lean hashes anything: it is a label: what it is worth is what the hold of that sum in a sandbox is worth. -/
noncomputable def Try.pinned : Pinned := { name := "ytnadpkjdaoehnaa", sum := "89b10f4ba42bb836a05c357cfe5f913294d88639f61ae2be373fcf24f2f63a2b", checked := Try.checked }
namespace Rows
def none {H : Type} : Left H := { results := [], args := [] }

/-- 'n011_205.FnBinaryAssignTargetCaseTable': WHATEVER THE INPUT: true; the input reads as it did. -/
def fnBinaryAssignTargetCaseTableSpec : ChangeSpec := { name := "fnBinaryAssignTargetCaseTable", fn := fun _ => fun
  | [d] => { results := [.lit (.bool true)], args := [d] }
  | _ => none }
def fnBinaryAssignTargetCaseTableRow : OpenClaim := { program := "ytnadpkjdaoehnaa", sum := "89b10f4ba42bb836a05c357cfe5f913294d88639f61ae2be373fcf24f2f63a2b", func := "github.com/evanw/esbuild/n011_205.FnBinaryAssignTargetCaseTable", spec := "fnBinaryAssignTargetCaseTable", apart := false }
def FnBinaryAssignTargetCaseTableSaid : Prop := fnBinaryAssignTargetCaseTableRow.holds Try.pinned (OpenSpec.ofChange fnBinaryAssignTargetCaseTableSpec)

/-- ITS FALSE NEIGHBOUR: 'it returns false'. Refute it at one input. -/
def fnBinaryAssignTargetCaseTableWrong : ChangeSpec := { name := "fnBinaryAssignTargetCaseTable", fn := fun _ => fun
  | [d] => { results := [.lit (.bool false)], args := [d] }
  | _ => none }
def FnBinaryAssignTargetCaseTableWrongFalsely : Prop := fnBinaryAssignTargetCaseTableRow.holds Try.pinned (OpenSpec.ofChange fnBinaryAssignTargetCaseTableWrong)

/-- 'n011_103.FnIsESMWrapRange': WHATEVER THE INPUT: true; the input reads as it did. -/
def fnIsESMWrapRangeSpec : ChangeSpec := { name := "fnIsESMWrapRange", fn := fun _ => fun
  | [d] => { results := [.lit (.bool true)], args := [d] }
  | _ => none }
def fnIsESMWrapRangeRow : OpenClaim := { program := "ytnadpkjdaoehnaa", sum := "89b10f4ba42bb836a05c357cfe5f913294d88639f61ae2be373fcf24f2f63a2b", func := "github.com/evanw/esbuild/n011_103.FnIsESMWrapRange", spec := "fnIsESMWrapRange", apart := false }
def FnIsESMWrapRangeSaid : Prop := fnIsESMWrapRangeRow.holds Try.pinned (OpenSpec.ofChange fnIsESMWrapRangeSpec)

/-- ITS FALSE NEIGHBOUR: 'it returns false'. Refute it at one input. -/
def fnIsESMWrapRangeWrong : ChangeSpec := { name := "fnIsESMWrapRange", fn := fun _ => fun
  | [d] => { results := [.lit (.bool false)], args := [d] }
  | _ => none }
def FnIsESMWrapRangeWrongFalsely : Prop := fnIsESMWrapRangeRow.holds Try.pinned (OpenSpec.ofChange fnIsESMWrapRangeWrong)

/-- 'n011_143.FnIsLeftAssociativeTable': WHATEVER THE INPUT: true; the input reads as it did. -/
def fnIsLeftAssociativeTableSpec : ChangeSpec := { name := "fnIsLeftAssociativeTable", fn := fun _ => fun
  | [d] => { results := [.lit (.bool true)], args := [d] }
  | _ => none }
def fnIsLeftAssociativeTableRow : OpenClaim := { program := "ytnadpkjdaoehnaa", sum := "89b10f4ba42bb836a05c357cfe5f913294d88639f61ae2be373fcf24f2f63a2b", func := "github.com/evanw/esbuild/n011_143.FnIsLeftAssociativeTable", spec := "fnIsLeftAssociativeTable", apart := false }
def FnIsLeftAssociativeTableSaid : Prop := fnIsLeftAssociativeTableRow.holds Try.pinned (OpenSpec.ofChange fnIsLeftAssociativeTableSpec)

/-- ITS FALSE NEIGHBOUR: 'it returns false'. Refute it at one input. -/
def fnIsLeftAssociativeTableWrong : ChangeSpec := { name := "fnIsLeftAssociativeTable", fn := fun _ => fun
  | [d] => { results := [.lit (.bool false)], args := [d] }
  | _ => none }
def FnIsLeftAssociativeTableWrongFalsely : Prop := fnIsLeftAssociativeTableRow.holds Try.pinned (OpenSpec.ofChange fnIsLeftAssociativeTableWrong)

/-- 'n011_143.FnIsPrefixTable': WHATEVER THE INPUT: true; the input reads as it did. -/
def fnIsPrefixTableSpec : ChangeSpec := { name := "fnIsPrefixTable", fn := fun _ => fun
  | [d] => { results := [.lit (.bool true)], args := [d] }
  | _ => none }
def fnIsPrefixTableRow : OpenClaim := { program := "ytnadpkjdaoehnaa", sum := "89b10f4ba42bb836a05c357cfe5f913294d88639f61ae2be373fcf24f2f63a2b", func := "github.com/evanw/esbuild/n011_143.FnIsPrefixTable", spec := "fnIsPrefixTable", apart := false }
def FnIsPrefixTableSaid : Prop := fnIsPrefixTableRow.holds Try.pinned (OpenSpec.ofChange fnIsPrefixTableSpec)

/-- ITS FALSE NEIGHBOUR: 'it returns false'. Refute it at one input. -/
def fnIsPrefixTableWrong : ChangeSpec := { name := "fnIsPrefixTable", fn := fun _ => fun
  | [d] => { results := [.lit (.bool false)], args := [d] }
  | _ => none }
def FnIsPrefixTableWrongFalsely : Prop := fnIsPrefixTableRow.holds Try.pinned (OpenSpec.ofChange fnIsPrefixTableWrong)

/-- 'n011_15.FnIsUsingCaseTable': WHATEVER THE INPUT: true; the input reads as it did. -/
def fnIsUsingCaseTableSpec : ChangeSpec := { name := "fnIsUsingCaseTable", fn := fun _ => fun
  | [d] => { results := [.lit (.bool true)], args := [d] }
  | _ => none }
def fnIsUsingCaseTableRow : OpenClaim := { program := "ytnadpkjdaoehnaa", sum := "89b10f4ba42bb836a05c357cfe5f913294d88639f61ae2be373fcf24f2f63a2b", func := "github.com/evanw/esbuild/n011_15.FnIsUsingCaseTable", spec := "fnIsUsingCaseTable", apart := false }
def FnIsUsingCaseTableSaid : Prop := fnIsUsingCaseTableRow.holds Try.pinned (OpenSpec.ofChange fnIsUsingCaseTableSpec)

/-- ITS FALSE NEIGHBOUR: 'it returns false'. Refute it at one input. -/
def fnIsUsingCaseTableWrong : ChangeSpec := { name := "fnIsUsingCaseTable", fn := fun _ => fun
  | [d] => { results := [.lit (.bool false)], args := [d] }
  | _ => none }
def FnIsUsingCaseTableWrongFalsely : Prop := fnIsUsingCaseTableRow.holds Try.pinned (OpenSpec.ofChange fnIsUsingCaseTableWrong)

/-- 'n011_205.FnIsMethodDefinitionClosedForm': WHATEVER THE INPUT: true; the input reads as it did. -/
def fnIsMethodDefinitionClosedFormSpec : ChangeSpec := { name := "fnIsMethodDefinitionClosedForm", fn := fun _ => fun
  | [d] => { results := [.lit (.bool true)], args := [d] }
  | _ => none }
def fnIsMethodDefinitionClosedFormRow : OpenClaim := { program := "ytnadpkjdaoehnaa", sum := "89b10f4ba42bb836a05c357cfe5f913294d88639f61ae2be373fcf24f2f63a2b", func := "github.com/evanw/esbuild/n011_205.FnIsMethodDefinitionClosedForm", spec := "fnIsMethodDefinitionClosedForm", apart := false }
def FnIsMethodDefinitionClosedFormSaid : Prop := fnIsMethodDefinitionClosedFormRow.holds Try.pinned (OpenSpec.ofChange fnIsMethodDefinitionClosedFormSpec)

/-- ITS FALSE NEIGHBOUR: 'it returns false'. Refute it at one input. -/
def fnIsMethodDefinitionClosedFormWrong : ChangeSpec := { name := "fnIsMethodDefinitionClosedForm", fn := fun _ => fun
  | [d] => { results := [.lit (.bool false)], args := [d] }
  | _ => none }
def FnIsMethodDefinitionClosedFormWrongFalsely : Prop := fnIsMethodDefinitionClosedFormRow.holds Try.pinned (OpenSpec.ofChange fnIsMethodDefinitionClosedFormWrong)

/- THE SECOND FORM. 'bulk': how many values and letters a reading holds, each counted each time it is reached (what is shared counts as often as it is met; a slice's spare places count too). A statement '..UptoSaid' is the law's where the arguments, and the package variables that the reading takes, are together of bulk at most 1048576: NARROWER than '..Said'. Prove '..Said' where nothing that the law and all that it calls make is longer than what came in: it says more and counts as full. Else prove '..UptoSaid'. A law counts once. -/
mutual
def uptoBulk {H : Type} : DataW H → Nat
  | .lit (.string bytes) => bytes.length + 1
  | .lit _ => 1
  | .nil => 1
  | .ptr d => uptoBulk d + 1
  | .slice elems spare => uptoBulkAll elems + uptoBulkAll spare + 1
  | .agg parts => uptoBulkAll parts + 1
  | .iface _ d => uptoBulk d + 1
  | .map entries => uptoBulkEntries entries + 1
  | .held _ => 1
def uptoBulkAll {H : Type} : List (DataW H) → Nat
  | [] => 0
  | d :: r => uptoBulk d + uptoBulkAll r
def uptoBulkEntries {H : Type} : List (Lit × DataW H) → Nat
  | [] => 0
  | x :: r => uptoBulkEntry x + uptoBulkEntries r
def uptoBulkEntry {H : Type} : Lit × DataW H → Nat
  | (.string bytes, d) => bytes.length + uptoBulk d + 1
  | (_, d) => uptoBulk d + 1
 end
def uptoSmall : (H : Type) → List (DataW H) → Bool := fun _ ds => decide (uptoBulkAll ds ≤ 1048576)
def OpenSpec.upto (s : _root_.Go.ChangeSpec) : _root_.Go.OpenSpec := { _root_.Go.OpenSpec.ofChange s with cond := some uptoSmall }

/-- 'n011_205.FnBinaryAssignTargetCaseTable', WHERE WHAT IT READS IS OF BULK AT MOST 1048576: true; the input reads as it did. -/
def fnBinaryAssignTargetCaseTableUptoRow : OpenClaim := { program := "ytnadpkjdaoehnaa", sum := "89b10f4ba42bb836a05c357cfe5f913294d88639f61ae2be373fcf24f2f63a2b", func := "github.com/evanw/esbuild/n011_205.FnBinaryAssignTargetCaseTable", spec := "fnBinaryAssignTargetCaseTable", apart := false, narrowed := true }
def FnBinaryAssignTargetCaseTableUptoSaid : Prop := fnBinaryAssignTargetCaseTableUptoRow.holds Try.pinned (OpenSpec.upto fnBinaryAssignTargetCaseTableSpec)

/-- 'n011_103.FnIsESMWrapRange', WHERE WHAT IT READS IS OF BULK AT MOST 1048576: true; the input reads as it did. -/
def fnIsESMWrapRangeUptoRow : OpenClaim := { program := "ytnadpkjdaoehnaa", sum := "89b10f4ba42bb836a05c357cfe5f913294d88639f61ae2be373fcf24f2f63a2b", func := "github.com/evanw/esbuild/n011_103.FnIsESMWrapRange", spec := "fnIsESMWrapRange", apart := false, narrowed := true }
def FnIsESMWrapRangeUptoSaid : Prop := fnIsESMWrapRangeUptoRow.holds Try.pinned (OpenSpec.upto fnIsESMWrapRangeSpec)

/-- 'n011_143.FnIsLeftAssociativeTable', WHERE WHAT IT READS IS OF BULK AT MOST 1048576: true; the input reads as it did. -/
def fnIsLeftAssociativeTableUptoRow : OpenClaim := { program := "ytnadpkjdaoehnaa", sum := "89b10f4ba42bb836a05c357cfe5f913294d88639f61ae2be373fcf24f2f63a2b", func := "github.com/evanw/esbuild/n011_143.FnIsLeftAssociativeTable", spec := "fnIsLeftAssociativeTable", apart := false, narrowed := true }
def FnIsLeftAssociativeTableUptoSaid : Prop := fnIsLeftAssociativeTableUptoRow.holds Try.pinned (OpenSpec.upto fnIsLeftAssociativeTableSpec)

/-- 'n011_143.FnIsPrefixTable', WHERE WHAT IT READS IS OF BULK AT MOST 1048576: true; the input reads as it did. -/
def fnIsPrefixTableUptoRow : OpenClaim := { program := "ytnadpkjdaoehnaa", sum := "89b10f4ba42bb836a05c357cfe5f913294d88639f61ae2be373fcf24f2f63a2b", func := "github.com/evanw/esbuild/n011_143.FnIsPrefixTable", spec := "fnIsPrefixTable", apart := false, narrowed := true }
def FnIsPrefixTableUptoSaid : Prop := fnIsPrefixTableUptoRow.holds Try.pinned (OpenSpec.upto fnIsPrefixTableSpec)

/-- 'n011_15.FnIsUsingCaseTable', WHERE WHAT IT READS IS OF BULK AT MOST 1048576: true; the input reads as it did. -/
def fnIsUsingCaseTableUptoRow : OpenClaim := { program := "ytnadpkjdaoehnaa", sum := "89b10f4ba42bb836a05c357cfe5f913294d88639f61ae2be373fcf24f2f63a2b", func := "github.com/evanw/esbuild/n011_15.FnIsUsingCaseTable", spec := "fnIsUsingCaseTable", apart := false, narrowed := true }
def FnIsUsingCaseTableUptoSaid : Prop := fnIsUsingCaseTableUptoRow.holds Try.pinned (OpenSpec.upto fnIsUsingCaseTableSpec)

/-- 'n011_205.FnIsMethodDefinitionClosedForm', WHERE WHAT IT READS IS OF BULK AT MOST 1048576: true; the input reads as it did. -/
def fnIsMethodDefinitionClosedFormUptoRow : OpenClaim := { program := "ytnadpkjdaoehnaa", sum := "89b10f4ba42bb836a05c357cfe5f913294d88639f61ae2be373fcf24f2f63a2b", func := "github.com/evanw/esbuild/n011_205.FnIsMethodDefinitionClosedForm", spec := "fnIsMethodDefinitionClosedForm", apart := false, narrowed := true }
def FnIsMethodDefinitionClosedFormUptoSaid : Prop := fnIsMethodDefinitionClosedFormUptoRow.holds Try.pinned (OpenSpec.upto fnIsMethodDefinitionClosedFormSpec)

end Rows
end Go.Proofs.Ytnadpkjdaoehnaa
