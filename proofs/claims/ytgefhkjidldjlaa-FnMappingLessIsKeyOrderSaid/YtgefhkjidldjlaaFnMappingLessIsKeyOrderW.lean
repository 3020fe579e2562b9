import Derived.Test.YtgefhkjidldjlaaKit
namespace Go.Proofs.Ytgefhkjidldjlaa.fnMappingLessIsKeyOrder
open Go.ChangeShapes Go.WideShapes Go.ChangeAt Go.RowKit
set_option linter.unusedVariables false

set_option maxHeartbeats 2000000 in
theorem walk (a0 : Int) (a1 : Int) (a2 : Int) (a3 : Int) (w : World) (w0 : (Lit.int .i32 a0).wf = true) (w1 : (Lit.int .i32 a1).wf = true) (w2 : (Lit.int .i32 a2).wf = true) (w3 : (Lit.int .i32 a3).wf = true) :
    Calls Try.prog 5 #[.int .i32 a0, .int .i32 a1, .int .i32 a2, .int .i32 a3] w fun e w' => e = .returned (.bool true) ∧ Below w.heap.size w w' := by
  have b0 := bounds_i32 w0
  have b1 := bounds_i32 w1
  have b2 := bounds_i32 w2
  have b3 := bounds_i32 w3
  clear w0 w1 w2 w3
  have key : ∀ (l c m d : Int), l < m → -2147483648 ≤ c → c ≤ 2147483647 → -2147483648 ≤ d → d ≤ 2147483647 →
      decide (l * 4294967296 + (c + 2147483648) ≤ m * 4294967296 + (d + 2147483648)) = true ∧ decide (m * 4294967296 + (d + 2147483648) ≤ l * 4294967296 + (c + 2147483648)) = false := by
    intro l c m d h _ _ _ _
    constructor
    · exact decide_eq_true (by omega)
    · exact decide_eq_false (by omega)
  by_cases h1 : a0 < a2
  · obtain ⟨k1, k2⟩ := key a0 a1 a2 a3 h1 b1.1 b1.2 b3.1 b3.2
    have h2 : (a0 == a2) = false := by simp; omega
    have h3 : (a2 == a0) = false := by simp; omega
    have h4 : decide (a0 < a2) = true := by simpa using h1
    have h5 : decide (a2 < a0) = false := by simp; omega
    clear key
    go_enter Try.func5, Try.ntmps5
    go_wp2
    go_ret
    exact ⟨rfl, by go_grown⟩
  · by_cases h1 : a2 < a0
    · obtain ⟨k1, k2⟩ := key a2 a3 a0 a1 h1 b3.1 b3.2 b1.1 b1.2
      have h2 : (a0 == a2) = false := by simp; omega
      have h3 : (a2 == a0) = false := by simp; omega
      have h4 : decide (a0 < a2) = false := by simp; omega
      have h5 : decide (a2 < a0) = true := by simpa using h1
      clear key
      go_enter Try.func5, Try.ntmps5
      go_wp2
      go_ret
      exact ⟨rfl, by go_grown⟩
    · obtain rfl : a0 = a2 := by omega
      clear key h1
      have h4 : decide (a0 < a0) = false := by simp
      have h6 : (a0 == a0) = true := by simp
      by_cases h2 : a1 ≤ a3
      · by_cases h3 : a3 ≤ a1
        · have k1 : decide (a0 * 4294967296 + (a1 + 2147483648) ≤ a0 * 4294967296 + (a3 + 2147483648)) = true := decide_eq_true (by omega)
          have k2 : decide (a0 * 4294967296 + (a3 + 2147483648) ≤ a0 * 4294967296 + (a1 + 2147483648)) = true := decide_eq_true (by omega)
          have k3 : decide (a1 ≤ a3) = true := decide_eq_true h2
          have k4 : decide (a3 ≤ a1) = true := decide_eq_true h3
          go_enter Try.func5, Try.ntmps5
          go_wp2
          go_ret
          exact ⟨rfl, by go_grown⟩
        · have k1 : decide (a0 * 4294967296 + (a1 + 2147483648) ≤ a0 * 4294967296 + (a3 + 2147483648)) = true := decide_eq_true (by omega)
          have k2 : decide (a0 * 4294967296 + (a3 + 2147483648) ≤ a0 * 4294967296 + (a1 + 2147483648)) = false := decide_eq_false (by omega)
          have k3 : decide (a1 ≤ a3) = true := decide_eq_true h2
          have k4 : decide (a3 ≤ a1) = false := decide_eq_false h3
          go_enter Try.func5, Try.ntmps5
          go_wp2
          go_ret
          exact ⟨rfl, by go_grown⟩
      · have k1 : decide (a0 * 4294967296 + (a1 + 2147483648) ≤ a0 * 4294967296 + (a3 + 2147483648)) = false := decide_eq_false (by omega)
        have k2 : decide (a0 * 4294967296 + (a3 + 2147483648) ≤ a0 * 4294967296 + (a1 + 2147483648)) = true := decide_eq_true (by omega)
        have k3 : decide (a1 ≤ a3) = false := decide_eq_false h2
        have k4 : decide (a3 ≤ a1) = true := decide_eq_true (by omega)
        go_enter Try.func5, Try.ntmps5
        go_wp2
        go_ret
        exact ⟨rfl, by go_grown⟩

end Go.Proofs.Ytgefhkjidldjlaa.fnMappingLessIsKeyOrder
