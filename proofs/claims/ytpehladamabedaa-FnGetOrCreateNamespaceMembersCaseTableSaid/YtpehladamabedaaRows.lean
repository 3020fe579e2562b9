/-
  No cell of these rows narrows 'for every input' (looked for: loops, veiled, ifaces, maps, wideKeys, modest, calm, conditions, laid).
  DERIVED. THE GIVEN ROWS OF THIS SEAT. 5 by the template 'for every input the law returns true; each argument reads behind the call as it read before'; 0 by the template 'total and deterministic' (their statements: YtpehladamabedaaTotals.lean).
  GIVEN WITH THE SEED: the statements are not yours to turn. If you find one false, say at which input.
  Laid BY PROGRAM, IN A SANDBOX (cutbox-rows.mjs): the forced cells as the released guide's own fill.sh prints them over the translation 6a98d6761ce338dc… (all of the seat's roots in one cut). By AI agents, Wed Nov 11 2026. No macro, syntax, notation, axiom, sorry.
-/
import Derived.Test.YtpehladamabedaaChecked
import GoSem.Claim
import GoSem.ClaimJoined
import GoSem.ClaimMapViews
import Derived.JoinedTies
import Derived.KernelRfl
namespace Go.Proofs.Ytpehladamabedaa
/- THE CELL 'sum', in the pinned program and in every row, IS THE sha256 OF THE DUMP (.gsa) THAT YtpehladamabedaaProg.lean LOADS. Nothing in Lean hashes anything: it is a label: what it is worth is what the hold of that sum in a sandbox is worth. -/
noncomputable def Try.pinned : Pinned := { name := "ytpehladamabedaa", sum := "6a98d6761ce338dcf3663dcb469d48b8cd993e5e993ece92ace1c096cfaf2bfe", checked := Try.checked }
namespace Rows
def none {H : Type} : Left H := { results := [], args := [] }

/-- 'n011_120.FnJumpStmtsLookTheSameSymmetricAndOnlyJumps': WHATEVER THE INPUT: true; the input reads as it did. -/
def fnJumpStmtsLookTheSameSymmetricAndOnlyJumpsSpec : ChangeSpec := { name := "fnJumpStmtsLookTheSameSymmetricAndOnlyJumps", fn := fun _ => fun
  | [d1, d2, d3, d4, d5, d6, d7, d8, d9, d10] => { results := [.lit (.bool true)], args := [d1, d2, d3, d4, d5, d6, d7, d8, d9, d10] }
  | _ => none }
def fnJumpStmtsLookTheSameSymmetricAndOnlyJumpsRow : OpenClaim := { program := "ytpehladamabedaa", sum := "6a98d6761ce338dcf3663dcb469d48b8cd993e5e993ece92ace1c096cfaf2bfe", func := "github.com/evanw/esbuild/n011_120.FnJumpStmtsLookTheSameSymmetricAndOnlyJumps", spec := "fnJumpStmtsLookTheSameSymmetricAndOnlyJumps", inPlace := ["math.Float64bits"], recurses := true, plainKeys := false, apart := false }
def FnJumpStmtsLookTheSameSymmetricAndOnlyJumpsSaid : Prop := fnJumpStmtsLookTheSameSymmetricAndOnlyJumpsRow.holds Try.pinned (OpenSpec.ofChange fnJumpStmtsLookTheSameSymmetricAndOnlyJumpsSpec)

/-- ITS FALSE NEIGHBOUR: 'it returns false'. Refute it at one input. -/
def fnJumpStmtsLookTheSameSymmetricAndOnlyJumpsWrong : ChangeSpec := { name := "fnJumpStmtsLookTheSameSymmetricAndOnlyJumps", fn := fun _ => fun
  | [d1, d2, d3, d4, d5, d6, d7, d8, d9, d10] => { results := [.lit (.bool false)], args := [d1, d2, d3, d4, d5, d6, d7, d8, d9, d10] }
  | _ => none }
def FnJumpStmtsLookTheSameSymmetricAndOnlyJumpsWrongFalsely : Prop := fnJumpStmtsLookTheSameSymmetricAndOnlyJumpsRow.holds Try.pinned (OpenSpec.ofChange fnJumpStmtsLookTheSameSymmetricAndOnlyJumpsWrong)

/-- 'n011_94.FnExtractPrivateIndexTable': WHATEVER THE INPUT: true; the input reads as it did. -/
def fnExtractPrivateIndexTableSpec : ChangeSpec := { name := "fnExtractPrivateIndexTable", fn := fun _ => fun
  | [d1, d2, d3, d4, d5, d6, d7] => { results := [.lit (.bool true)], args := [d1, d2, d3, d4, d5, d6, d7] }
  | _ => none }
def fnExtractPrivateIndexTableRow : OpenClaim := { program := "ytpehladamabedaa", sum := "6a98d6761ce338dcf3663dcb469d48b8cd993e5e993ece92ace1c096cfaf2bfe", func := "github.com/evanw/esbuild/n011_94.FnExtractPrivateIndexTable", spec := "fnExtractPrivateIndexTable", plainKeys := false, apart := false }
def FnExtractPrivateIndexTableSaid : Prop := fnExtractPrivateIndexTableRow.holds Try.pinned (OpenSpec.ofChange fnExtractPrivateIndexTableSpec)

/-- ITS FALSE NEIGHBOUR: 'it returns false'. Refute it at one input. -/
def fnExtractPrivateIndexTableWrong : ChangeSpec := { name := "fnExtractPrivateIndexTable", fn := fun _ => fun
  | [d1, d2, d3, d4, d5, d6, d7] => { results := [.lit (.bool false)], args := [d1, d2, d3, d4, d5, d6, d7] }
  | _ => none }
def FnExtractPrivateIndexTableWrongFalsely : Prop := fnExtractPrivateIndexTableRow.holds Try.pinned (OpenSpec.ofChange fnExtractPrivateIndexTableWrong)

/-- 'n011_52.FnGetOrCreateNamespaceMembersCaseTable': WHATEVER THE INPUT: true; the input reads as it did. -/
def fnGetOrCreateNamespaceMembersCaseTableSpec : ChangeSpec := { name := "fnGetOrCreateNamespaceMembersCaseTable", fn := fun _ => fun
  | [d1, d2, d3, d4, d5, d6] => { results := [.lit (.bool true)], args := [d1, d2, d3, d4, d5, d6] }
  | _ => none }
def fnGetOrCreateNamespaceMembersCaseTableRow : OpenClaim := { program := "ytpehladamabedaa", sum := "6a98d6761ce338dcf3663dcb469d48b8cd993e5e993ece92ace1c096cfaf2bfe", func := "github.com/evanw/esbuild/n011_52.FnGetOrCreateNamespaceMembersCaseTable", spec := "fnGetOrCreateNamespaceMembersCaseTable", plainKeys := false, apart := false }
def FnGetOrCreateNamespaceMembersCaseTableSaid : Prop := fnGetOrCreateNamespaceMembersCaseTableRow.holds Try.pinned (OpenSpec.ofChange fnGetOrCreateNamespaceMembersCaseTableSpec)

/-- ITS FALSE NEIGHBOUR: 'it returns false'. Refute it at one input. -/
def fnGetOrCreateNamespaceMembersCaseTableWrong : ChangeSpec := { name := "fnGetOrCreateNamespaceMembersCaseTable", fn := fun _ => fun
  | [d1, d2, d3, d4, d5, d6] => { results := [.lit (.bool false)], args := [d1, d2, d3, d4, d5, d6] }
  | _ => none }
def FnGetOrCreateNamespaceMembersCaseTableWrongFalsely : Prop := fnGetOrCreateNamespaceMembersCaseTableRow.holds Try.pinned (OpenSpec.ofChange fnGetOrCreateNamespaceMembersCaseTableWrong)

/-- 'n011_252.FnDupCheckerResetState': WHATEVER THE INPUT: true; the input reads as it did. -/
def fnDupCheckerResetStateSpec : ChangeSpec := { name := "fnDupCheckerResetState", fn := fun _ => fun
  | [d1, d2] => { results := [.lit (.bool true)], args := [d1, d2] }
  | _ => none }
def fnDupCheckerResetStateRow : OpenClaim := { program := "ytpehladamabedaa", sum := "6a98d6761ce338dcf3663dcb469d48b8cd993e5e993ece92ace1c096cfaf2bfe", func := "github.com/evanw/esbuild/n011_252.FnDupCheckerResetState", spec := "fnDupCheckerResetState", plainKeys := false, apart := false }
def FnDupCheckerResetStateSaid : Prop := fnDupCheckerResetStateRow.holds Try.pinned (OpenSpec.ofChange fnDupCheckerResetStateSpec)

/-- ITS FALSE NEIGHBOUR: 'it returns false'. Refute it at one input. -/
def fnDupCheckerResetStateWrong : ChangeSpec := { name := "fnDupCheckerResetState", fn := fun _ => fun
  | [d1, d2] => { results := [.lit (.bool false)], args := [d1, d2] }
  | _ => none }
def FnDupCheckerResetStateWrongFalsely : Prop := fnDupCheckerResetStateRow.holds Try.pinned (OpenSpec.ofChange fnDupCheckerResetStateWrong)

/-- 'n011_252.FnCaseBodyFallThroughTable': WHATEVER THE INPUT: true; the input reads as it did. -/
def fnCaseBodyFallThroughTableSpec : ChangeSpec := { name := "fnCaseBodyFallThroughTable", fn := fun _ => fun
  | [d] => { results := [.lit (.bool true)], args := [d] }
  | _ => none }
def fnCaseBodyFallThroughTableRow : OpenClaim := { program := "ytpehladamabedaa", sum := "6a98d6761ce338dcf3663dcb469d48b8cd993e5e993ece92ace1c096cfaf2bfe", func := "github.com/evanw/esbuild/n011_252.FnCaseBodyFallThroughTable", spec := "fnCaseBodyFallThroughTable", plainKeys := false, apart := false }
def FnCaseBodyFallThroughTableSaid : Prop := fnCaseBodyFallThroughTableRow.holds Try.pinned (OpenSpec.ofChange fnCaseBodyFallThroughTableSpec)

/-- ITS FALSE NEIGHBOUR: 'it returns false'. Refute it at one input. -/
def fnCaseBodyFallThroughTableWrong : ChangeSpec := { name := "fnCaseBodyFallThroughTable", fn := fun _ => fun
  | [d] => { results := [.lit (.bool false)], args := [d] }
  | _ => none }
def FnCaseBodyFallThroughTableWrongFalsely : Prop := fnCaseBodyFallThroughTableRow.holds Try.pinned (OpenSpec.ofChange fnCaseBodyFallThroughTableWrong)

/- THE SECOND FORM. 'bulk': how many values and letters a reading holds, each counted each time it is reached (what is shared counts as often as it is met; a slice's spare places count too). A statement '..UptoSaid' is the law's where the arguments, and the package variables that the reading takes, are together of bulk at most 1048576: NARROWER than '..Said'. Prove '..Said' where nothing that the law and all that it calls make is longer than what came in: it says more and counts as full. Else prove '..UptoSaid'. A law counts once. -/
mutual
def uptoBulk {H : Type} : DataW H → Nat
  | .lit (.string bytes) => bytes.length + 1
  | .lit _ => 1
  | .nil => 1
  | .ptr d => uptoBulk d + 1
  | .slice elems spare => uptoBulkAll elems + uptoBulkAll spare + 1
  | .agg parts => uptoBulkAll parts + 1
  | .iface _ d => uptoBulk d + 1
  | .map entries => uptoBulkEntries entries + 1
  | .held _ => 1
def uptoBulkAll {H : Type} : List (DataW H) → Nat
  | [] => 0
  | d :: r => uptoBulk d + uptoBulkAll r
def uptoBulkEntries {H : Type} : List (Lit × DataW H) → Nat
  | [] => 0
  | x :: r => uptoBulkEntry x + uptoBulkEntries r
def uptoBulkEntry {H : Type} : Lit × DataW H → Nat
  | (.string bytes, d) => bytes.length + uptoBulk d + 1
  | (_, d) => uptoBulk d + 1
 end
def uptoSmall : (H : Type) → List (DataW H) → Bool := fun _ ds => decide (uptoBulkAll ds ≤ 1048576)
def OpenSpec.upto (s : _root_.Go.ChangeSpec) : _root_.Go.OpenSpec := { _root_.Go.OpenSpec.ofChange s with cond := some uptoSmall }

/-- 'n011_120.FnJumpStmtsLookTheSameSymmetricAndOnlyJumps', WHERE WHAT IT READS IS OF BULK AT MOST 1048576: true; the input reads as it did. -/
def fnJumpStmtsLookTheSameSymmetricAndOnlyJumpsUptoRow : OpenClaim := { program := "ytpehladamabedaa", sum := "6a98d6761ce338dcf3663dcb469d48b8cd993e5e993ece92ace1c096cfaf2bfe", func := "github.com/evanw/esbuild/n011_120.FnJumpStmtsLookTheSameSymmetricAndOnlyJumps", spec := "fnJumpStmtsLookTheSameSymmetricAndOnlyJumps", inPlace := ["math.Float64bits"], recurses := true, plainKeys := false, apart := false, narrowed := true }
def FnJumpStmtsLookTheSameSymmetricAndOnlyJumpsUptoSaid : Prop := fnJumpStmtsLookTheSameSymmetricAndOnlyJumpsUptoRow.holds Try.pinned (OpenSpec.upto fnJumpStmtsLookTheSameSymmetricAndOnlyJumpsSpec)

/-- 'n011_94.FnExtractPrivateIndexTable', WHERE WHAT IT READS IS OF BULK AT MOST 1048576: true; the input reads as it did. -/
def fnExtractPrivateIndexTableUptoRow : OpenClaim := { program := "ytpehladamabedaa", sum := "6a98d6761ce338dcf3663dcb469d48b8cd993e5e993ece92ace1c096cfaf2bfe", func := "github.com/evanw/esbuild/n011_94.FnExtractPrivateIndexTable", spec := "fnExtractPrivateIndexTable", plainKeys := false, apart := false, narrowed := true }
def FnExtractPrivateIndexTableUptoSaid : Prop := fnExtractPrivateIndexTableUptoRow.holds Try.pinned (OpenSpec.upto fnExtractPrivateIndexTableSpec)

/-- 'n011_52.FnGetOrCreateNamespaceMembersCaseTable', WHERE WHAT IT READS IS OF BULK AT MOST 1048576: true; the input reads as it did. -/
def fnGetOrCreateNamespaceMembersCaseTableUptoRow : OpenClaim := { program := "ytpehladamabedaa", sum := "6a98d6761ce338dcf3663dcb469d48b8cd993e5e993ece92ace1c096cfaf2bfe", func := "github.com/evanw/esbuild/n011_52.FnGetOrCreateNamespaceMembersCaseTable", spec := "fnGetOrCreateNamespaceMembersCaseTable", plainKeys := false, apart := false, narrowed := true }
def FnGetOrCreateNamespaceMembersCaseTableUptoSaid : Prop := fnGetOrCreateNamespaceMembersCaseTableUptoRow.holds Try.pinned (OpenSpec.upto fnGetOrCreateNamespaceMembersCaseTableSpec)

/-- 'n011_252.FnDupCheckerResetState', WHERE WHAT IT READS IS OF BULK AT MOST 1048576: true; the input reads as it did. -/
def fnDupCheckerResetStateUptoRow : OpenClaim := { program := "ytpehladamabedaa", sum := "6a98d6761ce338dcf3663dcb469d48b8cd993e5e993ece92ace1c096cfaf2bfe", func := "github.com/evanw/esbuild/n011_252.FnDupCheckerResetState", spec := "fnDupCheckerResetState", plainKeys := false, apart := false, narrowed := true }
def FnDupCheckerResetStateUptoSaid : Prop := fnDupCheckerResetStateUptoRow.holds Try.pinned (OpenSpec.upto fnDupCheckerResetStateSpec)

/-- 'n011_252.FnCaseBodyFallThroughTable', WHERE WHAT IT READS IS OF BULK AT MOST 1048576: true; the input reads as it did. -/
def fnCaseBodyFallThroughTableUptoRow : OpenClaim := { program := "ytpehladamabedaa", sum := "6a98d6761ce338dcf3663dcb469d48b8cd993e5e993ece92ace1c096cfaf2bfe", func := "github.com/evanw/esbuild/n011_252.FnCaseBodyFallThroughTable", spec := "fnCaseBodyFallThroughTable", plainKeys := false, apart := false, narrowed := true }
def FnCaseBodyFallThroughTableUptoSaid : Prop := fnCaseBodyFallThroughTableUptoRow.holds Try.pinned (OpenSpec.upto fnCaseBodyFallThroughTableSpec)

end Rows
end Go.Proofs.Ytpehladamabedaa
