import Derived.Test.YtailfkedgdlldacKit
import Derived.Test.YtailfkedgdlldacPrim
namespace Go.Proofs.Ytailfkedgdlldac.fnCanChangeStrictToLooseSymmetricThroughEnums
open Go.ChangeShapes Go.WideShapes Go.ChangeAt Go.RowKit
set_option linter.unusedVariables false
set_option maxRecDepth 100000
set_option maxHeartbeats 2000000

theorem if_known (b : Nat) (d1 d2 : Value) (l1 l2 x y : Int) (w : World) (c1 : w.cell? ⟨b, 2, none⟩ = some d1) (c2 : w.cell? ⟨b, 3, none⟩ = some (.int .i32 l1)) (c3 : w.cell? ⟨b, 4, none⟩ = some d2) (c4 : w.cell? ⟨b, 5, none⟩ = some (.int .i32 l2)) (h1 : Prim w d1 x) (h2 : Prim w d2 y) :
    Calls Try.prog 26 #[.iface 76 (.pointer (some ⟨b, 0, none⟩))] w fun e w' => e = .returned (.int .u8 (merged x y)) ∧ Below w.heap.size w w' := by
  have H1 := Lib.hid h1
  have H2 := Lib.hid h2
  clear h1 h2
  go_enter Try.func26, Try.ntmps26
  go_wp2_with fail
  go_region_with (go_at_call 30; refine (merge _ _ _ _ x y _ (H1.out.below (by go_grown)) (H2.out.below (by go_grown))).mono ?_; rintro e w1 ⟨rfl, b1⟩)
  all_goals
    go_wp2_with fail
    go_ret
    exact ⟨rfl, Below.trans (Below.drew (Below.refl _ _)) b1⟩

/-- Its primitive type is t in whatever world (no memory is looked into). -/
def Free (d : Value) (t : Int) : Prop := ∀ W : World, Calls Try.prog 26 #[d] W fun e w'' => e = .returned (.int .u8 t) ∧ Below W.heap.size W w''

/-- An expression by value whose primitive type the program knows to be t. -/
def PExpr (w : World) (v : Value) (t : Int) : Prop := ∃ d, v = .agg #[d, .int .i32 0] ∧ d.oneCell' = true ∧ Prim w d t

theorem PExpr.below {w w1 : World} {v : Value} {t : Int} (h : PExpr w v t) (hb : Below w.heap.size w w1) : PExpr w1 v t := by
  obtain ⟨d, h1, h2, h3⟩ := h
  exact ⟨d, h1, h2, h3.below hb⟩

theorem leaf0 (w : World) : Calls Try.prog 25 #[.int .u8 0] w fun e w' => ∃ d t, e = .returned (.agg #[d, .int .i32 0]) ∧ d.oneCell' = true ∧ Free d t ∧ Below w.heap.size w w' := by
  go_enter Try.func25, Try.ntmps25
  go_wp2
  go_returns
  exact ⟨_, 2, rfl, rfl, fun W => (leaf_known 90 2 _ W (by decide)), by go_grown⟩
theorem leaf1 (w : World) : Calls Try.prog 25 #[.int .u8 1] w fun e w' => ∃ d t, e = .returned (.agg #[d, .int .i32 0]) ∧ d.oneCell' = true ∧ Free d t ∧ Below w.heap.size w w' := by
  go_enter Try.func25, Try.ntmps25
  go_wp2
  go_returns
  exact ⟨_, 3, rfl, rfl, fun W => (leaf_known 93 3 _ W (by decide)), by go_grown⟩
theorem leaf2 (w : World) : Calls Try.prog 25 #[.int .u8 2] w fun e w' => ∃ d t, e = .returned (.agg #[d, .int .i32 0]) ∧ d.oneCell' = true ∧ Free d t ∧ Below w.heap.size w w' := by
  go_enter Try.func25, Try.ntmps25
  go_wp2
  go_returns
  exact ⟨_, 4, rfl, rfl, fun W => (leaf_known 95 4 _ W (by decide)), by go_grown⟩
theorem leaf3 (w : World) : Calls Try.prog 25 #[.int .u8 3] w fun e w' => ∃ d t, e = .returned (.agg #[d, .int .i32 0]) ∧ d.oneCell' = true ∧ Free d t ∧ Below w.heap.size w w' := by
  go_enter Try.func25, Try.ntmps25
  go_wp2
  go_returns
  exact ⟨_, 5, rfl, rfl, fun W => (leaf_known 47 5 _ W (by decide)), by go_grown⟩
theorem leaf4 (w : World) : Calls Try.prog 25 #[.int .u8 4] w fun e w' => ∃ d t, e = .returned (.agg #[d, .int .i32 0]) ∧ d.oneCell' = true ∧ Free d t ∧ Below w.heap.size w w' := by
  go_enter Try.func25, Try.ntmps25
  go_wp2
  go_returns
  exact ⟨_, 6, rfl, rfl, fun W => (leaf_known 98 6 _ W (by decide)), by go_grown⟩
theorem leaf5 (w : World) : Calls Try.prog 25 #[.int .u8 5] w fun e w' => ∃ d t, e = .returned (.agg #[d, .int .i32 0]) ∧ d.oneCell' = true ∧ Free d t ∧ Below w.heap.size w w' := by
  go_enter Try.func25, Try.ntmps25
  go_wp2
  go_returns
  exact ⟨_, 7, rfl, rfl, fun W => (leaf_known 103 7 _ W (by decide)), by go_grown⟩
theorem leaf6 (w : World) : Calls Try.prog 25 #[.int .u8 6] w fun e w' => ∃ d t, e = .returned (.agg #[d, .int .i32 0]) ∧ d.oneCell' = true ∧ Free d t ∧ Below w.heap.size w w' := by
  go_enter Try.func25, Try.ntmps25
  go_wp2
  go_returns
  exact ⟨_, 0, rfl, rfl, fun W => (leaf_unknown 106 _ W (by decide)), by go_grown⟩
theorem leaf7 (w : World) : Calls Try.prog 25 #[.int .u8 7] w fun e w' => ∃ d t, e = .returned (.agg #[d, .int .i32 0]) ∧ d.oneCell' = true ∧ Free d t ∧ Below w.heap.size w w' := by
  go_enter Try.func25, Try.ntmps25
  go_wp2
  go_returns
  exact ⟨_, 0, rfl, rfl, fun W => (leaf_unknown 109 _ W (by decide)), by go_grown⟩
theorem leaf8 (w : World) : Calls Try.prog 25 #[.int .u8 8] w fun e w' => ∃ d t, e = .returned (.agg #[d, .int .i32 0]) ∧ d.oneCell' = true ∧ Free d t ∧ Below w.heap.size w w' := by
  go_enter Try.func25, Try.ntmps25
  go_wp2
  go_returns
  exact ⟨_, 0, rfl, rfl, fun W => (leaf_unknown 111 _ W (by decide)), by go_grown⟩
theorem leaf9 (w : World) : Calls Try.prog 25 #[.int .u8 9] w fun e w' => ∃ d t, e = .returned (.agg #[d, .int .i32 0]) ∧ d.oneCell' = true ∧ Free d t ∧ Below w.heap.size w w' := by
  go_enter Try.func25, Try.ntmps25
  go_wp2
  go_returns
  exact ⟨_, 0, rfl, rfl, fun W => (leaf_unknown 123 _ W (by decide)), by go_grown⟩
theorem leafN (k : Int) (w : World) (h : 9 < k) : Calls Try.prog 25 #[.int .u8 k] w fun e w' => ∃ d t, e = .returned (.agg #[d, .int .i32 0]) ∧ d.oneCell' = true ∧ Free d t ∧ Below w.heap.size w w' := by
  go_enter Try.func25, Try.ntmps25
  go_wp2
  go_returns
  exact ⟨_, 0, rfl, rfl, fun W => (leaf_unknown 126 _ W (by decide)), by go_grown⟩

theorem leaf (k : Int) (w : World) (h : 0 ≤ k) : Calls Try.prog 25 #[.int .u8 k] w fun e w' => ∃ d t, e = .returned (.agg #[d, .int .i32 0]) ∧ d.oneCell' = true ∧ Free d t ∧ Below w.heap.size w w' := by
  by_cases h9 : 9 < k
  · exact leafN k w h9
  · have hk : k = 0 ∨ k = 1 ∨ k = 2 ∨ k = 3 ∨ k = 4 ∨ k = 5 ∨ k = 6 ∨ k = 7 ∨ k = 8 ∨ k = 9 := by omega
    rcases hk with rfl | rfl | rfl | rfl | rfl | rfl | rfl | rfl | rfl | rfl
    · exact leaf0 w
    · exact leaf1 w
    · exact leaf2 w
    · exact leaf3 w
    · exact leaf4 w
    · exact leaf5 w
    · exact leaf6 w
    · exact leaf7 w
    · exact leaf8 w
    · exact leaf9 w

end Go.Proofs.Ytailfkedgdlldac.fnCanChangeStrictToLooseSymmetricThroughEnums
