/-
  No cell of these rows narrows 'for every input' (looked for: loops, veiled, ifaces, maps, wideKeys, modest, calm, conditions, laid).
  DERIVED. THE GIVEN ROWS OF THIS SEAT. 4 by the template 'for every input the law returns true; each argument reads behind the call as it read before'; 0 by the template 'total and deterministic' (their statements: YtgefhkjidldjlaaTotals.lean).
  GIVEN WITH THE SEED: the statements are not yours to turn. If you find one false, say at which input.
  Laid BY PROGRAM, IN A SANDBOX (cutbox-rows.mjs): the forced cells as the released guide's own fill.sh prints them over the translation 7ccf02d7a9b1ea73… (all of the seat's roots in one cut). By AI agents, Wed Nov 11 2026. No macro, syntax, notation, axiom, sorry.
-/
import Derived.Test.YtgefhkjidldjlaaChecked
import GoSem.Claim
import GoSem.ClaimJoined
import GoSem.ClaimMapViews
import Derived.JoinedTies
import Derived.KernelRfl
namespace Go.Proofs.Ytgefhkjidldjlaa
/- THE CELL 'sum', in the pinned program and in every row, IS THE sha256 OF THE DUMP (.gsa) THAT YtgefhkjidldjlaaProg.lean LOADS. Nothing in Lean hashes anything: it is a label: what it is worth is what the hold of that sum in a sandbox is worth. -/
noncomputable def Try.pinned : Pinned := { name := "ytgefhkjidldjlaa", sum := "7ccf02d7a9b1ea73f667fe7f1293d5b8bc1ca73e7e071aeeb83f2fea1fc1a628", checked := Try.checked }
namespace Rows
def none {H : Type} : Left H := { results := [], args := [] }

/-- 'n011_159.FnWillNeedBindingPatternAllowInNarrows': WHATEVER THE INPUT: true; the input reads as it did. -/
def fnWillNeedBindingPatternAllowInNarrowsSpec : ChangeSpec := { name := "fnWillNeedBindingPatternAllowInNarrows", fn := fun _ => fun
  | [d] => { results := [.lit (.bool true)], args := [d] }
  | _ => none }
def fnWillNeedBindingPatternAllowInNarrowsRow : OpenClaim := { program := "ytgefhkjidldjlaa", sum := "7ccf02d7a9b1ea73f667fe7f1293d5b8bc1ca73e7e071aeeb83f2fea1fc1a628", func := "github.com/evanw/esbuild/n011_159.FnWillNeedBindingPatternAllowInNarrows", spec := "fnWillNeedBindingPatternAllowInNarrows", plainKeys := false, apart := false }
def FnWillNeedBindingPatternAllowInNarrowsSaid : Prop := fnWillNeedBindingPatternAllowInNarrowsRow.holds Try.pinned (OpenSpec.ofChange fnWillNeedBindingPatternAllowInNarrowsSpec)

/-- ITS FALSE NEIGHBOUR: 'it returns false'. Refute it at one input. -/
def fnWillNeedBindingPatternAllowInNarrowsWrong : ChangeSpec := { name := "fnWillNeedBindingPatternAllowInNarrows", fn := fun _ => fun
  | [d] => { results := [.lit (.bool false)], args := [d] }
  | _ => none }
def FnWillNeedBindingPatternAllowInNarrowsWrongFalsely : Prop := fnWillNeedBindingPatternAllowInNarrowsRow.holds Try.pinned (OpenSpec.ofChange fnWillNeedBindingPatternAllowInNarrowsWrong)

/-- 'n011_6.FnFieldOrAccessorOrderOnlyStaticMatters': WHATEVER THE INPUT: true; the input reads as it did. -/
def fnFieldOrAccessorOrderOnlyStaticMattersSpec : ChangeSpec := { name := "fnFieldOrAccessorOrderOnlyStaticMatters", fn := fun _ => fun
  | [d1, d2, d3] => { results := [.lit (.bool true)], args := [d1, d2, d3] }
  | _ => none }
def fnFieldOrAccessorOrderOnlyStaticMattersRow : OpenClaim := { program := "ytgefhkjidldjlaa", sum := "7ccf02d7a9b1ea73f667fe7f1293d5b8bc1ca73e7e071aeeb83f2fea1fc1a628", func := "github.com/evanw/esbuild/n011_6.FnFieldOrAccessorOrderOnlyStaticMatters", spec := "fnFieldOrAccessorOrderOnlyStaticMatters", plainKeys := false, apart := false }
def FnFieldOrAccessorOrderOnlyStaticMattersSaid : Prop := fnFieldOrAccessorOrderOnlyStaticMattersRow.holds Try.pinned (OpenSpec.ofChange fnFieldOrAccessorOrderOnlyStaticMattersSpec)

/-- ITS FALSE NEIGHBOUR: 'it returns false'. Refute it at one input. -/
def fnFieldOrAccessorOrderOnlyStaticMattersWrong : ChangeSpec := { name := "fnFieldOrAccessorOrderOnlyStaticMatters", fn := fun _ => fun
  | [d1, d2, d3] => { results := [.lit (.bool false)], args := [d1, d2, d3] }
  | _ => none }
def FnFieldOrAccessorOrderOnlyStaticMattersWrongFalsely : Prop := fnFieldOrAccessorOrderOnlyStaticMattersRow.holds Try.pinned (OpenSpec.ofChange fnFieldOrAccessorOrderOnlyStaticMattersWrong)

/-- 'n011_91.FnMappingLessIsKeyOrder': WHATEVER THE INPUT: true; the input reads as it did. -/
def fnMappingLessIsKeyOrderSpec : ChangeSpec := { name := "fnMappingLessIsKeyOrder", fn := fun _ => fun
  | [d1, d2, d3, d4] => { results := [.lit (.bool true)], args := [d1, d2, d3, d4] }
  | _ => none }
def fnMappingLessIsKeyOrderRow : OpenClaim := { program := "ytgefhkjidldjlaa", sum := "7ccf02d7a9b1ea73f667fe7f1293d5b8bc1ca73e7e071aeeb83f2fea1fc1a628", func := "github.com/evanw/esbuild/n011_91.FnMappingLessIsKeyOrder", spec := "fnMappingLessIsKeyOrder", plainKeys := false, apart := false }
def FnMappingLessIsKeyOrderSaid : Prop := fnMappingLessIsKeyOrderRow.holds Try.pinned (OpenSpec.ofChange fnMappingLessIsKeyOrderSpec)

/-- ITS FALSE NEIGHBOUR: 'it returns false'. Refute it at one input. -/
def fnMappingLessIsKeyOrderWrong : ChangeSpec := { name := "fnMappingLessIsKeyOrder", fn := fun _ => fun
  | [d1, d2, d3, d4] => { results := [.lit (.bool false)], args := [d1, d2, d3, d4] }
  | _ => none }
def FnMappingLessIsKeyOrderWrongFalsely : Prop := fnMappingLessIsKeyOrderRow.holds Try.pinned (OpenSpec.ofChange fnMappingLessIsKeyOrderWrong)

/-- 'n011_229.FnHasAlgebra': WHATEVER THE INPUT: true; the input reads as it did. -/
def fnHasAlgebraSpec : ChangeSpec := { name := "fnHasAlgebra", fn := fun _ => fun
  | [d1, d2, d3] => { results := [.lit (.bool true)], args := [d1, d2, d3] }
  | _ => none }
def fnHasAlgebraRow : OpenClaim := { program := "ytgefhkjidldjlaa", sum := "7ccf02d7a9b1ea73f667fe7f1293d5b8bc1ca73e7e071aeeb83f2fea1fc1a628", func := "github.com/evanw/esbuild/n011_229.FnHasAlgebra", spec := "fnHasAlgebra", plainKeys := false, apart := false }
def FnHasAlgebraSaid : Prop := fnHasAlgebraRow.holds Try.pinned (OpenSpec.ofChange fnHasAlgebraSpec)

/-- ITS FALSE NEIGHBOUR: 'it returns false'. Refute it at one input. -/
def fnHasAlgebraWrong : ChangeSpec := { name := "fnHasAlgebra", fn := fun _ => fun
  | [d1, d2, d3] => { results := [.lit (.bool false)], args := [d1, d2, d3] }
  | _ => none }
def FnHasAlgebraWrongFalsely : Prop := fnHasAlgebraRow.holds Try.pinned (OpenSpec.ofChange fnHasAlgebraWrong)

/- THE SECOND FORM. 'bulk': how many values and letters a reading holds, each counted each time it is reached (what is shared counts as often as it is met; a slice's spare places count too). A statement '..UptoSaid' is the law's where the arguments, and the package variables that the reading takes, are together of bulk at most 1048576: NARROWER than '..Said'. Prove '..Said' where nothing that the law and all that it calls make is longer than what came in: it says more and counts as full. Else prove '..UptoSaid'. A law counts once. -/
mutual
def uptoBulk {H : Type} : DataW H → Nat
  | .lit (.string bytes) => bytes.length + 1
  | .lit _ => 1
  | .nil => 1
  | .ptr d => uptoBulk d + 1
  | .slice elems spare => uptoBulkAll elems + uptoBulkAll spare + 1
  | .agg parts => uptoBulkAll parts + 1
  | .iface _ d => uptoBulk d + 1
  | .map entries => uptoBulkEntries entries + 1
  | .held _ => 1
def uptoBulkAll {H : Type} : List (DataW H) → Nat
  | [] => 0
  | d :: r => uptoBulk d + uptoBulkAll r
def uptoBulkEntries {H : Type} : List (Lit × DataW H) → Nat
  | [] => 0
  | x :: r => uptoBulkEntry x + uptoBulkEntries r
def uptoBulkEntry {H : Type} : Lit × DataW H → Nat
  | (.string bytes, d) => bytes.length + uptoBulk d + 1
  | (_, d) => uptoBulk d + 1
 end
def uptoSmall : (H : Type) → List (DataW H) → Bool := fun _ ds => decide (uptoBulkAll ds ≤ 1048576)
def OpenSpec.upto (s : _root_.Go.ChangeSpec) : _root_.Go.OpenSpec := { _root_.Go.OpenSpec.ofChange s with cond := some uptoSmall }

/-- 'n011_159.FnWillNeedBindingPatternAllowInNarrows', WHERE WHAT IT READS IS OF BULK AT MOST 1048576: true; the input reads as it did. -/
def fnWillNeedBindingPatternAllowInNarrowsUptoRow : OpenClaim := { program := "ytgefhkjidldjlaa", sum := "7ccf02d7a9b1ea73f667fe7f1293d5b8bc1ca73e7e071aeeb83f2fea1fc1a628", func := "github.com/evanw/esbuild/n011_159.FnWillNeedBindingPatternAllowInNarrows", spec := "fnWillNeedBindingPatternAllowInNarrows", plainKeys := false, apart := false, narrowed := true }
def FnWillNeedBindingPatternAllowInNarrowsUptoSaid : Prop := fnWillNeedBindingPatternAllowInNarrowsUptoRow.holds Try.pinned (OpenSpec.upto fnWillNeedBindingPatternAllowInNarrowsSpec)

/-- 'n011_6.FnFieldOrAccessorOrderOnlyStaticMatters', WHERE WHAT IT READS IS OF BULK AT MOST 1048576: true; the input reads as it did. -/
def fnFieldOrAccessorOrderOnlyStaticMattersUptoRow : OpenClaim := { program := "ytgefhkjidldjlaa", sum := "7ccf02d7a9b1ea73f667fe7f1293d5b8bc1ca73e7e071aeeb83f2fea1fc1a628", func := "github.com/evanw/esbuild/n011_6.FnFieldOrAccessorOrderOnlyStaticMatters", spec := "fnFieldOrAccessorOrderOnlyStaticMatters", plainKeys := false, apart := false, narrowed := true }
def FnFieldOrAccessorOrderOnlyStaticMattersUptoSaid : Prop := fnFieldOrAccessorOrderOnlyStaticMattersUptoRow.holds Try.pinned (OpenSpec.upto fnFieldOrAccessorOrderOnlyStaticMattersSpec)

/-- 'n011_91.FnMappingLessIsKeyOrder', WHERE WHAT IT READS IS OF BULK AT MOST 1048576: true; the input reads as it did. -/
def fnMappingLessIsKeyOrderUptoRow : OpenClaim := { program := "ytgefhkjidldjlaa", sum := "7ccf02d7a9b1ea73f667fe7f1293d5b8bc1ca73e7e071aeeb83f2fea1fc1a628", func := "github.com/evanw/esbuild/n011_91.FnMappingLessIsKeyOrder", spec := "fnMappingLessIsKeyOrder", plainKeys := false, apart := false, narrowed := true }
def FnMappingLessIsKeyOrderUptoSaid : Prop := fnMappingLessIsKeyOrderUptoRow.holds Try.pinned (OpenSpec.upto fnMappingLessIsKeyOrderSpec)

/-- 'n011_229.FnHasAlgebra', WHERE WHAT IT READS IS OF BULK AT MOST 1048576: true; the input reads as it did. -/
def fnHasAlgebraUptoRow : OpenClaim := { program := "ytgefhkjidldjlaa", sum := "7ccf02d7a9b1ea73f667fe7f1293d5b8bc1ca73e7e071aeeb83f2fea1fc1a628", func := "github.com/evanw/esbuild/n011_229.FnHasAlgebra", spec := "fnHasAlgebra", plainKeys := false, apart := false, narrowed := true }
def FnHasAlgebraUptoSaid : Prop := fnHasAlgebraUptoRow.holds Try.pinned (OpenSpec.upto fnHasAlgebraSpec)

end Rows
end Go.Proofs.Ytgefhkjidldjlaa
