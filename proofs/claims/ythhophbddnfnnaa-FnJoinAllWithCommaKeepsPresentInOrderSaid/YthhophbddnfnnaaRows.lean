/-
  No cell of these rows narrows 'for every input' (looked for: loops, veiled, ifaces, maps, wideKeys, modest, calm, conditions, laid).
  DERIVED. THE GIVEN ROWS OF THIS SEAT. 4 by the template 'for every input the law returns true; each argument reads behind the call as it read before'; 0 by the template 'total and deterministic' (their statements: YthhophbddnfnnaaTotals.lean).
  GIVEN WITH THE SEED: the statements are not yours to turn. If you find one false, say at which input.
  Laid BY PROGRAM, IN A SANDBOX (cutbox-rows.mjs): the forced cells as the released guide's own fill.sh prints them over the translation dc52803e87148970… (all of the seat's roots in one cut). By AI agents, Wed Nov 11 2026. No macro, syntax, notation, axiom, sorry.
-/
import Derived.Test.YthhophbddnfnnaaChecked
import GoSem.Claim
import GoSem.ClaimJoined
import GoSem.ClaimMapViews
import Derived.JoinedTies
import Derived.KernelRfl
namespace Go.Proofs.Ythhophbddnfnnaa
/- THE CELL 'sum', in the pinned program and in every row, IS THE sha256 OF THE DUMP (.gsa) THAT YthhophbddnfnnaaProg.lean LOADS. Nothing in Lean hashes anything: it is a label: what it is worth is what the hold of that sum in a sandbox is worth. -/
noncomputable def Try.pinned : Pinned := { name := "ythhophbddnfnnaa", sum := "dc52803e87148970122d68d9c1d3312894f1757ef4a13ba59d158ba24b1c0ac3", checked := Try.checked }
namespace Rows
def none {H : Type} : Left H := { results := [], args := [] }

/-- 'n011_152.FnCanChangeStrictToLooseSymmetricThroughEnums': WHATEVER THE INPUT: true; the input reads as it did. -/
def fnCanChangeStrictToLooseSymmetricThroughEnumsSpec : ChangeSpec := { name := "fnCanChangeStrictToLooseSymmetricThroughEnums", fn := fun _ => fun
  | [d1, d2, d3, d4, d5, d6, d7, d8] => { results := [.lit (.bool true)], args := [d1, d2, d3, d4, d5, d6, d7, d8] }
  | _ => none }
def fnCanChangeStrictToLooseSymmetricThroughEnumsRow : OpenClaim := { program := "ythhophbddnfnnaa", sum := "dc52803e87148970122d68d9c1d3312894f1757ef4a13ba59d158ba24b1c0ac3", func := "github.com/evanw/esbuild/n011_152.FnCanChangeStrictToLooseSymmetricThroughEnums", spec := "fnCanChangeStrictToLooseSymmetricThroughEnums", recurses := true, apart := false }
def FnCanChangeStrictToLooseSymmetricThroughEnumsSaid : Prop := fnCanChangeStrictToLooseSymmetricThroughEnumsRow.holds Try.pinned (OpenSpec.ofChange fnCanChangeStrictToLooseSymmetricThroughEnumsSpec)

/-- ITS FALSE NEIGHBOUR: 'it returns false'. Refute it at one input. -/
def fnCanChangeStrictToLooseSymmetricThroughEnumsWrong : ChangeSpec := { name := "fnCanChangeStrictToLooseSymmetricThroughEnums", fn := fun _ => fun
  | [d1, d2, d3, d4, d5, d6, d7, d8] => { results := [.lit (.bool false)], args := [d1, d2, d3, d4, d5, d6, d7, d8] }
  | _ => none }
def FnCanChangeStrictToLooseSymmetricThroughEnumsWrongFalsely : Prop := fnCanChangeStrictToLooseSymmetricThroughEnumsRow.holds Try.pinned (OpenSpec.ofChange fnCanChangeStrictToLooseSymmetricThroughEnumsWrong)

/-- 'n011_152.FnJoinWithLeftAssociativeOpLeftFoldModel': WHATEVER THE INPUT: true; the input reads as it did. -/
def fnJoinWithLeftAssociativeOpLeftFoldModelSpec : ChangeSpec := { name := "fnJoinWithLeftAssociativeOpLeftFoldModel", fn := fun _ => fun
  | [d1, d2, d3] => { results := [.lit (.bool true)], args := [d1, d2, d3] }
  | _ => none }
def fnJoinWithLeftAssociativeOpLeftFoldModelRow : OpenClaim := { program := "ythhophbddnfnnaa", sum := "dc52803e87148970122d68d9c1d3312894f1757ef4a13ba59d158ba24b1c0ac3", func := "github.com/evanw/esbuild/n011_152.FnJoinWithLeftAssociativeOpLeftFoldModel", spec := "fnJoinWithLeftAssociativeOpLeftFoldModel", recurses := true, apart := false }
def FnJoinWithLeftAssociativeOpLeftFoldModelSaid : Prop := fnJoinWithLeftAssociativeOpLeftFoldModelRow.holds Try.pinned (OpenSpec.ofChange fnJoinWithLeftAssociativeOpLeftFoldModelSpec)

/-- ITS FALSE NEIGHBOUR: 'it returns false'. Refute it at one input. -/
def fnJoinWithLeftAssociativeOpLeftFoldModelWrong : ChangeSpec := { name := "fnJoinWithLeftAssociativeOpLeftFoldModel", fn := fun _ => fun
  | [d1, d2, d3] => { results := [.lit (.bool false)], args := [d1, d2, d3] }
  | _ => none }
def FnJoinWithLeftAssociativeOpLeftFoldModelWrongFalsely : Prop := fnJoinWithLeftAssociativeOpLeftFoldModelRow.holds Try.pinned (OpenSpec.ofChange fnJoinWithLeftAssociativeOpLeftFoldModelWrong)

/-- 'n011_127.FnJoinAllWithCommaKeepsPresentInOrder': WHATEVER THE INPUT: true; the input reads as it did. -/
def fnJoinAllWithCommaKeepsPresentInOrderSpec : ChangeSpec := { name := "fnJoinAllWithCommaKeepsPresentInOrder", fn := fun _ => fun
  | [d] => { results := [.lit (.bool true)], args := [d] }
  | _ => none }
def fnJoinAllWithCommaKeepsPresentInOrderRow : OpenClaim := { program := "ythhophbddnfnnaa", sum := "dc52803e87148970122d68d9c1d3312894f1757ef4a13ba59d158ba24b1c0ac3", func := "github.com/evanw/esbuild/n011_127.FnJoinAllWithCommaKeepsPresentInOrder", spec := "fnJoinAllWithCommaKeepsPresentInOrder", apart := false }
def FnJoinAllWithCommaKeepsPresentInOrderSaid : Prop := fnJoinAllWithCommaKeepsPresentInOrderRow.holds Try.pinned (OpenSpec.ofChange fnJoinAllWithCommaKeepsPresentInOrderSpec)

/-- ITS FALSE NEIGHBOUR: 'it returns false'. Refute it at one input. -/
def fnJoinAllWithCommaKeepsPresentInOrderWrong : ChangeSpec := { name := "fnJoinAllWithCommaKeepsPresentInOrder", fn := fun _ => fun
  | [d] => { results := [.lit (.bool false)], args := [d] }
  | _ => none }
def FnJoinAllWithCommaKeepsPresentInOrderWrongFalsely : Prop := fnJoinAllWithCommaKeepsPresentInOrderRow.holds Try.pinned (OpenSpec.ofChange fnJoinAllWithCommaKeepsPresentInOrderWrong)

/-- 'n011_15.FnRecursiveSetStrictModeMatchesPathModel': WHATEVER THE INPUT: true; the input reads as it did. -/
def fnRecursiveSetStrictModeMatchesPathModelSpec : ChangeSpec := { name := "fnRecursiveSetStrictModeMatchesPathModel", fn := fun _ => fun
  | [d1, d2, d3] => { results := [.lit (.bool true)], args := [d1, d2, d3] }
  | _ => none }
def fnRecursiveSetStrictModeMatchesPathModelRow : OpenClaim := { program := "ythhophbddnfnnaa", sum := "dc52803e87148970122d68d9c1d3312894f1757ef4a13ba59d158ba24b1c0ac3", func := "github.com/evanw/esbuild/n011_15.FnRecursiveSetStrictModeMatchesPathModel", spec := "fnRecursiveSetStrictModeMatchesPathModel", recurses := true, apart := false }
def FnRecursiveSetStrictModeMatchesPathModelSaid : Prop := fnRecursiveSetStrictModeMatchesPathModelRow.holds Try.pinned (OpenSpec.ofChange fnRecursiveSetStrictModeMatchesPathModelSpec)

/-- ITS FALSE NEIGHBOUR: 'it returns false'. Refute it at one input. -/
def fnRecursiveSetStrictModeMatchesPathModelWrong : ChangeSpec := { name := "fnRecursiveSetStrictModeMatchesPathModel", fn := fun _ => fun
  | [d1, d2, d3] => { results := [.lit (.bool false)], args := [d1, d2, d3] }
  | _ => none }
def FnRecursiveSetStrictModeMatchesPathModelWrongFalsely : Prop := fnRecursiveSetStrictModeMatchesPathModelRow.holds Try.pinned (OpenSpec.ofChange fnRecursiveSetStrictModeMatchesPathModelWrong)

/- THE SECOND FORM. 'bulk': how many values and letters a reading holds, each counted each time it is reached (what is shared counts as often as it is met; a slice's spare places count too). A statement '..UptoSaid' is the law's where the arguments, and the package variables that the reading takes, are together of bulk at most 1048576: NARROWER than '..Said'. Prove '..Said' where nothing that the law and all that it calls make is longer than what came in: it says more and counts as full. Else prove '..UptoSaid'. A law counts once. -/
mutual
def uptoBulk {H : Type} : DataW H → Nat
  | .lit (.string bytes) => bytes.length + 1
  | .lit _ => 1
  | .nil => 1
  | .ptr d => uptoBulk d + 1
  | .slice elems spare => uptoBulkAll elems + uptoBulkAll spare + 1
  | .agg parts => uptoBulkAll parts + 1
  | .iface _ d => uptoBulk d + 1
  | .map entries => uptoBulkEntries entries + 1
  | .held _ => 1
def uptoBulkAll {H : Type} : List (DataW H) → Nat
  | [] => 0
  | d :: r => uptoBulk d + uptoBulkAll r
def uptoBulkEntries {H : Type} : List (Lit × DataW H) → Nat
  | [] => 0
  | x :: r => uptoBulkEntry x + uptoBulkEntries r
def uptoBulkEntry {H : Type} : Lit × DataW H → Nat
  | (.string bytes, d) => bytes.length + uptoBulk d + 1
  | (_, d) => uptoBulk d + 1
 end
def uptoSmall : (H : Type) → List (DataW H) → Bool := fun _ ds => decide (uptoBulkAll ds ≤ 1048576)
def OpenSpec.upto (s : _root_.Go.ChangeSpec) : _root_.Go.OpenSpec := { _root_.Go.OpenSpec.ofChange s with cond := some uptoSmall }

/-- 'n011_152.FnCanChangeStrictToLooseSymmetricThroughEnums', WHERE WHAT IT READS IS OF BULK AT MOST 1048576: true; the input reads as it did. -/
def fnCanChangeStrictToLooseSymmetricThroughEnumsUptoRow : OpenClaim := { program := "ythhophbddnfnnaa", sum := "dc52803e87148970122d68d9c1d3312894f1757ef4a13ba59d158ba24b1c0ac3", func := "github.com/evanw/esbuild/n011_152.FnCanChangeStrictToLooseSymmetricThroughEnums", spec := "fnCanChangeStrictToLooseSymmetricThroughEnums", recurses := true, apart := false, narrowed := true }
def FnCanChangeStrictToLooseSymmetricThroughEnumsUptoSaid : Prop := fnCanChangeStrictToLooseSymmetricThroughEnumsUptoRow.holds Try.pinned (OpenSpec.upto fnCanChangeStrictToLooseSymmetricThroughEnumsSpec)

/-- 'n011_152.FnJoinWithLeftAssociativeOpLeftFoldModel', WHERE WHAT IT READS IS OF BULK AT MOST 1048576: true; the input reads as it did. -/
def fnJoinWithLeftAssociativeOpLeftFoldModelUptoRow : OpenClaim := { program := "ythhophbddnfnnaa", sum := "dc52803e87148970122d68d9c1d3312894f1757ef4a13ba59d158ba24b1c0ac3", func := "github.com/evanw/esbuild/n011_152.FnJoinWithLeftAssociativeOpLeftFoldModel", spec := "fnJoinWithLeftAssociativeOpLeftFoldModel", recurses := true, apart := false, narrowed := true }
def FnJoinWithLeftAssociativeOpLeftFoldModelUptoSaid : Prop := fnJoinWithLeftAssociativeOpLeftFoldModelUptoRow.holds Try.pinned (OpenSpec.upto fnJoinWithLeftAssociativeOpLeftFoldModelSpec)

/-- 'n011_127.FnJoinAllWithCommaKeepsPresentInOrder', WHERE WHAT IT READS IS OF BULK AT MOST 1048576: true; the input reads as it did. -/
def fnJoinAllWithCommaKeepsPresentInOrderUptoRow : OpenClaim := { program := "ythhophbddnfnnaa", sum := "dc52803e87148970122d68d9c1d3312894f1757ef4a13ba59d158ba24b1c0ac3", func := "github.com/evanw/esbuild/n011_127.FnJoinAllWithCommaKeepsPresentInOrder", spec := "fnJoinAllWithCommaKeepsPresentInOrder", apart := false, narrowed := true }
def FnJoinAllWithCommaKeepsPresentInOrderUptoSaid : Prop := fnJoinAllWithCommaKeepsPresentInOrderUptoRow.holds Try.pinned (OpenSpec.upto fnJoinAllWithCommaKeepsPresentInOrderSpec)

/-- 'n011_15.FnRecursiveSetStrictModeMatchesPathModel', WHERE WHAT IT READS IS OF BULK AT MOST 1048576: true; the input reads as it did. -/
def fnRecursiveSetStrictModeMatchesPathModelUptoRow : OpenClaim := { program := "ythhophbddnfnnaa", sum := "dc52803e87148970122d68d9c1d3312894f1757ef4a13ba59d158ba24b1c0ac3", func := "github.com/evanw/esbuild/n011_15.FnRecursiveSetStrictModeMatchesPathModel", spec := "fnRecursiveSetStrictModeMatchesPathModel", recurses := true, apart := false, narrowed := true }
def FnRecursiveSetStrictModeMatchesPathModelUptoSaid : Prop := fnRecursiveSetStrictModeMatchesPathModelUptoRow.holds Try.pinned (OpenSpec.upto fnRecursiveSetStrictModeMatchesPathModelSpec)

end Rows
end Go.Proofs.Ythhophbddnfnnaa
