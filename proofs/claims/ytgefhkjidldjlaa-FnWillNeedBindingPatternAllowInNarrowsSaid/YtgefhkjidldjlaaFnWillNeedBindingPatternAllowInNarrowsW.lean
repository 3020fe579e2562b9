import Derived.Test.YtgefhkjidldjlaaKit
import Derived.Test.YtgefhkjidldjlaaBig
namespace Go.Proofs.Ytgefhkjidldjlaa.fnWillNeedBindingPatternAllowInNarrows
open Go.ChangeShapes Go.WideShapes Go.ChangeAt Go.RowKit
set_option linter.unusedVariables false
set_option maxRecDepth 100000
set_option maxHeartbeats 2000000

theorem build165 (b : Bool) (w : World) : (Instr.build 165 #[(104, .bool b)]).run Try.prog w = .ok (.agg (PZ165.setIfInBounds 346 (.bool b))) w := by kernel_rfl

/-- What the test answers while the token is no identifier. -/
def need (tok : Int) (b : Bool) : Bool := tok == 59 || (tok == 91 && !b)

theorem seven (tok : Int) (b : Bool) (w : World) (h : (tok == 69) = false) :
    Calls Try.prog 7 #[.int .u8 tok, .bool b] w fun e w' => e = .returned (.bool (need tok b)) ∧ Below w.heap.size w w' := by
  go_enter Try.func7, Try.ntmps7
  go_wp2_with (first | refine wpList_build rfl 165 _ rfl #[(104, .bool b)] (by simp [Act.eval]) _ (build165 _ _) ?_ | go_in)
  all_goals
    go_ret
    exact ⟨ret_bool (by simp [need, *]), by go_grown⟩

theorem seven69 (tok : Int) (w : World) (h : tok = 69) :
    Calls Try.prog 7 #[.int .u8 tok, .bool true] w fun e w' => e = .returned (.bool false) ∧ Below w.heap.size w w' := by
  subst h
  go_enter Try.func7, Try.ntmps7
  go_wp2_with (first | refine wpList_build rfl 165 _ rfl #[(104, .bool true)] (by simp [Act.eval]) _ (build165 _ _) ?_ | go_in)
  go_ret
  exact ⟨rfl, by go_grown⟩

theorem walk (a0 : Int) (w : World) (w0 : (Lit.int .u8 a0).wf = true) :
    Calls Try.prog 3 #[.int .u8 a0] w fun e w' => e = .returned (.bool true) ∧ Below w.heap.size w w' := by
  clear w0
  by_cases h : a0 = 69
  · have hb : (a0 == 69) = true := by simpa using h
    have H := Lib.hid h
    clear h
    go_enter Try.func3, Try.ntmps3
    go_wp2_with fail
    refine (seven69 _ _ H.out).mono ?_
    rintro e w1 ⟨rfl, h1⟩
    go_wp2
    go_ret
    exact ⟨rfl, h1⟩
  · have hb : (a0 == 69) = false := by simpa using h
    clear h
    obtain ⟨p, hp⟩ : ∃ p, need a0 true = p := ⟨_, rfl⟩
    obtain ⟨q, hq⟩ : ∃ q, need a0 false = q := ⟨_, rfl⟩
    have hpq : (!p || q) = true := by
      subst hp hq
      unfold need
      cases (a0 == 59) <;> cases (a0 == 91) <;> rfl
    have HP := Lib.hid hp
    have HQ := Lib.hid hq
    clear hp hq
    go_enter Try.func3, Try.ntmps3
    go_wp2_with fail
    refine (seven _ _ _ hb).mono ?_
    rintro e w1 ⟨rfl, h1⟩
    rw [HP.out]
    go_wp2_with fail
    refine (seven _ _ _ hb).mono ?_
    rintro e w2 ⟨rfl, h2⟩
    rw [HQ.out]
    cases p <;> cases q <;> simp at hpq
    all_goals
      go_wp2
      go_ret
      exact ⟨rfl, h1.trans (h2.mono h1.size)⟩

end Go.Proofs.Ytgefhkjidldjlaa.fnWillNeedBindingPatternAllowInNarrows
