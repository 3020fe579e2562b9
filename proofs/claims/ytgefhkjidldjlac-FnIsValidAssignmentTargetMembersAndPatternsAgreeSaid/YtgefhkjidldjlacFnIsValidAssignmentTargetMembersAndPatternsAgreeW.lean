import Derived.Test.YtgefhkjidldjlacKit
import Derived.Test.YtgefhkjidldjlacBig
import Derived.Test.YtgefhkjidldjlacAs
namespace Go.Proofs.Ytgefhkjidldjlac.fnIsValidAssignmentTargetMembersAndPatternsAgree
open Go.ChangeShapes Go.WideShapes Go.ChangeAt Go.RowKit
set_option linter.unusedVariables false
set_option maxRecDepth 100000
set_option maxHeartbeats 2000000

theorem build242 (w : World) : (Instr.build 242 #[]).run Try.prog w = .ok (.agg PZ242) w := by kernel_rfl

theorem dot (c : Int) (w : World) : Calls Try.prog 23 #[.int .u8 c] w fun e w' => e = .returned (.bool (c == 0)) ∧ Below w.heap.size w w' := by
  go_enter Try.func23, Try.ntmps23
  go_wp2_with (first | refine wpList_build rfl 242 _ rfl #[] (by simp) _ (build242 _) ?_ | go_in)
  go_ret
  exact ⟨rfl, by go_grown⟩

theorem index (c : Int) (w : World) : Calls Try.prog 24 #[.int .u8 c] w fun e w' => e = .returned (.bool (c == 0)) ∧ Below w.heap.size w w' := by
  go_enter Try.func24, Try.ntmps24
  go_wp2_with (first | refine wpList_build rfl 242 _ rfl #[] (by simp) _ (build242 _) ?_ | go_in)
  go_ret
  exact ⟨rfl, by go_grown⟩

theorem object (p : Bool) (w : World) : Calls Try.prog 25 #[.bool p] w fun e w' => e = .returned (.bool (!p)) ∧ Below w.heap.size w w' := by
  go_enter Try.func25, Try.ntmps25
  go_wp2_with (first | refine wpList_build rfl 242 _ rfl #[] (by simp) _ (build242 _) ?_ | go_in)
  go_ret
  exact ⟨rfl, by go_grown⟩

theorem array (p : Bool) (w : World) : Calls Try.prog 26 #[.bool p] w fun e w' => e = .returned (.bool (!p)) ∧ Below w.heap.size w w' := by
  go_enter Try.func26, Try.ntmps26
  go_wp2_with (first | refine wpList_build rfl 242 _ rfl #[] (by simp) _ (build242 _) ?_ | go_in)
  go_ret
  exact ⟨rfl, by go_grown⟩

theorem walk (a0 : Int) (a1 : Bool) (w : World) (w0 : (Lit.int .u8 a0).wf = true) :
    Calls Try.prog 4 #[.int .u8 a0, .bool a1] w fun e w' => e = .returned (.bool true) ∧ Below w.heap.size w w' := by
  clear w0
  obtain ⟨B, hB⟩ : ∃ B, (a0 == 0) = B := ⟨_, rfl⟩
  have HB := Lib.hid hB
  clear hB
  go_enter Try.func4, Try.ntmps4
  go_wp2_with fail
  refine (dot _ _).mono ?_
  rintro e w1 ⟨rfl, h1⟩
  rw [HB.out]
  go_wp2_with fail
  refine (index _ _).mono ?_
  rintro e w2 ⟨rfl, h2⟩
  rw [HB.out]
  cases B <;> cases a1 <;>
  · go_wp2_with fail
    refine (object _ _).mono ?_
    rintro e w3 ⟨rfl, h3⟩
    simp only [Bool.not_true, Bool.not_false]
    go_wp2_with fail
    refine (array _ _).mono ?_
    rintro e w4 ⟨rfl, h4⟩
    simp only [Bool.not_true, Bool.not_false]
    have hB4 : Below w.heap.size w w4 := ((h1.trans (h2.mono h1.size)).trans (h3.mono (Nat.le_trans h1.size h2.size))).trans (h4.mono (Nat.le_trans (Nat.le_trans h1.size h2.size) h3.size))
    clear h1 h2 h3 h4 HB
    go_wp2
    go_loopw [5, 6] (fun v5 v6 wr => ∃ k : Nat, k ≤ 256 ∧ v6 = .int .i64 k ∧ v5 = .int .i64 (if 0 < k then 1 else 0) ∧ Below w.heap.size w wr) (fun _ v6 _ => 256 - (intOf v6).toNat)
    case atStart => exact ⟨0, by omega, rfl, rfl, hB4⟩
    case round =>
      obtain ⟨k, hk, rfl, rfl, hr⟩ := hrel
      by_cases hlt : k < 256
      · by_cases h0 : k = 0
        · subst h0
          go_wp2_with fail
          refine (dot _ _).mono ?_
          rintro e w5 ⟨rfl, h5⟩
          go_wp2
          go_roundw
          case rel => exact ⟨1, by omega, rfl, rfl, hr.trans (h5.mono hr.size)⟩
          case measure => simp [intOf]
        · have hp : 0 < k := by omega
          have hc : ((k : Int) == 0) = false := by simp; omega
          clear h0
          go_wp2_with fail
          refine (dot _ _).mono ?_
          rintro e w5 ⟨rfl, h5⟩
          rw [hc]
          go_wp2
          go_roundw
          case rel => exact ⟨k + 1, by omega, by go_num, by simp, hr.trans (h5.mono hr.size)⟩
          case measure => simp [intOf]; omega
      · obtain rfl : k = 256 := by omega
        go_wp2
        go_ret
        exact ⟨rfl, hr⟩

end Go.Proofs.Ytgefhkjidldjlac.fnIsValidAssignmentTargetMembersAndPatternsAgree
