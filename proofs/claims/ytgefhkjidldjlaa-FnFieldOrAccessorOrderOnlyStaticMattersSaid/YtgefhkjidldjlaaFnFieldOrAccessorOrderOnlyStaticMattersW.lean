import Derived.Test.YtgefhkjidldjlaaKit
namespace Go.Proofs.Ytgefhkjidldjlaa.fnFieldOrAccessorOrderOnlyStaticMatters
open Go.ChangeShapes Go.WideShapes Go.ChangeAt Go.RowKit
set_option linter.unusedVariables false

theorem walk (a0 : Int) (a1 : Int) (a2 : Int) (w : World) (w0 : (Lit.int .u8 a0).wf = true) (w1 : (Lit.int .u8 a1).wf = true) (w2 : (Lit.int .u8 a2).wf = true) :
    Calls Try.prog 4 #[.int .u8 a0, .int .u8 a1, .int .u8 a2] w fun e w' => e = .returned (.bool true) ∧ Below w.heap.size w w' := by
  have b0 := bounds_u8 w0
  clear w0 w1 w2
  obtain ⟨x, hx⟩ : ∃ x, bits .and .u8 a1 2 = x := ⟨_, rfl⟩
  obtain ⟨y, hy⟩ : ∃ y, bits .and .u8 a2 2 = y := ⟨_, rfl⟩
  by_cases h : x = y
  · subst h
    go_enter Try.func4, Try.ntmps4
    go_wp2
    all_goals
      go_ret
      exact ⟨rfl, by go_grown⟩
  · have hn : (x != y) = true := by simpa using h
    go_enter Try.func4, Try.ntmps4
    go_wp2
    all_goals
      go_ret
      exact ⟨rfl, by go_grown⟩

end Go.Proofs.Ytgefhkjidldjlaa.fnFieldOrAccessorOrderOnlyStaticMatters
