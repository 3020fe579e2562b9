import Derived.Test.YtgefhkjidldjlabKit
import Derived.Test.YtgefhkjidldjlabCareC
namespace Go.Proofs.Ytgefhkjidldjlab.fnStmtsCareAboutScopeIsAnyOfTable
open Go.ChangeShapes Go.WideShapes Go.ChangeAt Go.RowKit
set_option linter.unusedVariables false
set_option maxRecDepth 100000
set_option maxHeartbeats 2000000

theorem make0 (l : Int) (x : Bool) (R : Nat) (w : World) : Calls Try.prog 18 #[.int .i64 0, .int .i32 l, .bool x] w
    fun e w' => ∃ d, e = .returned (.agg #[d, .int .i32 l]) ∧ Cares w' R d false ∧ Below w.heap.size w w' := by
  go_enter Try.func18, Try.ntmps18
  go_wp2
  go_returns
  exact ⟨_, rfl, .inl ⟨rfl, _, _, rfl, by decide⟩, by go_grown⟩
theorem make1 (l : Int) (x : Bool) (R : Nat) (w : World) : Calls Try.prog 18 #[.int .i64 1, .int .i32 l, .bool x] w
    fun e w' => ∃ d, e = .returned (.agg #[d, .int .i32 l]) ∧ Cares w' R d false ∧ Below w.heap.size w w' := by
  go_enter Try.func18, Try.ntmps18
  go_wp2
  go_returns
  exact ⟨_, rfl, .inl ⟨rfl, _, _, rfl, by decide⟩, by go_grown⟩
theorem make2 (l : Int) (x : Bool) (R : Nat) (w : World) : Calls Try.prog 18 #[.int .i64 2, .int .i32 l, .bool x] w
    fun e w' => ∃ d, e = .returned (.agg #[d, .int .i32 l]) ∧ Cares w' R d false ∧ Below w.heap.size w w' := by
  go_enter Try.func18, Try.ntmps18
  go_wp2
  go_returns
  exact ⟨_, rfl, .inl ⟨rfl, _, _, rfl, by decide⟩, by go_grown⟩
theorem make3 (l : Int) (x : Bool) (R : Nat) (w : World) : Calls Try.prog 18 #[.int .i64 3, .int .i32 l, .bool x] w
    fun e w' => ∃ d, e = .returned (.agg #[d, .int .i32 l]) ∧ Cares w' R d false ∧ Below w.heap.size w w' := by
  go_enter Try.func18, Try.ntmps18
  go_wp2
  go_returns
  exact ⟨_, rfl, .inl ⟨rfl, _, _, rfl, by decide⟩, by go_grown⟩
theorem make4 (l : Int) (x : Bool) (R : Nat) (w : World) : Calls Try.prog 18 #[.int .i64 4, .int .i32 l, .bool x] w
    fun e w' => ∃ d, e = .returned (.agg #[d, .int .i32 l]) ∧ Cares w' R d false ∧ Below w.heap.size w w' := by
  go_enter Try.func18, Try.ntmps18
  go_wp2
  go_returns
  exact ⟨_, rfl, .inl ⟨rfl, _, _, rfl, by decide⟩, by go_grown⟩
theorem make5 (l : Int) (x : Bool) (R : Nat) (w : World) : Calls Try.prog 18 #[.int .i64 5, .int .i32 l, .bool x] w
    fun e w' => ∃ d, e = .returned (.agg #[d, .int .i32 l]) ∧ Cares w' R d false ∧ Below w.heap.size w w' := by
  go_enter Try.func18, Try.ntmps18
  go_wp2
  go_returns
  exact ⟨_, rfl, .inl ⟨rfl, _, _, rfl, by decide⟩, by go_grown⟩
theorem make6 (l : Int) (x : Bool) (R : Nat) (w : World) : Calls Try.prog 18 #[.int .i64 6, .int .i32 l, .bool x] w
    fun e w' => ∃ d, e = .returned (.agg #[d, .int .i32 l]) ∧ Cares w' R d false ∧ Below w.heap.size w w' := by
  go_enter Try.func18, Try.ntmps18
  go_wp2
  go_returns
  exact ⟨_, rfl, .inl ⟨rfl, _, _, rfl, by decide⟩, by go_grown⟩
theorem make7 (l : Int) (x : Bool) (R : Nat) (w : World) : Calls Try.prog 18 #[.int .i64 7, .int .i32 l, .bool x] w
    fun e w' => ∃ d, e = .returned (.agg #[d, .int .i32 l]) ∧ Cares w' R d false ∧ Below w.heap.size w w' := by
  go_enter Try.func18, Try.ntmps18
  go_wp2
  go_returns
  exact ⟨_, rfl, .inl ⟨rfl, _, _, rfl, by decide⟩, by go_grown⟩
theorem make8 (l : Int) (x : Bool) (R : Nat) (w : World) : Calls Try.prog 18 #[.int .i64 8, .int .i32 l, .bool x] w
    fun e w' => ∃ d, e = .returned (.agg #[d, .int .i32 l]) ∧ Cares w' R d false ∧ Below w.heap.size w w' := by
  go_enter Try.func18, Try.ntmps18
  go_wp2
  go_returns
  exact ⟨_, rfl, .inl ⟨rfl, _, _, rfl, by decide⟩, by go_grown⟩
theorem make9 (l : Int) (x : Bool) (R : Nat) (w : World) : Calls Try.prog 18 #[.int .i64 9, .int .i32 l, .bool x] w
    fun e w' => ∃ d, e = .returned (.agg #[d, .int .i32 l]) ∧ Cares w' R d false ∧ Below w.heap.size w w' := by
  go_enter Try.func18, Try.ntmps18
  go_wp2
  go_returns
  exact ⟨_, rfl, .inl ⟨rfl, _, _, rfl, by decide⟩, by go_grown⟩
theorem make10 (l : Int) (x : Bool) (R : Nat) (w : World) : Calls Try.prog 18 #[.int .i64 10, .int .i32 l, .bool x] w
    fun e w' => ∃ d, e = .returned (.agg #[d, .int .i32 l]) ∧ Cares w' R d false ∧ Below w.heap.size w w' := by
  go_enter Try.func18, Try.ntmps18
  go_wp2
  go_returns
  exact ⟨_, rfl, .inl ⟨rfl, _, _, rfl, by decide⟩, by go_grown⟩
theorem make11 (l : Int) (x : Bool) (R : Nat) (w : World) : Calls Try.prog 18 #[.int .i64 11, .int .i32 l, .bool x] w
    fun e w' => ∃ d, e = .returned (.agg #[d, .int .i32 l]) ∧ Cares w' R d false ∧ Below w.heap.size w w' := by
  go_enter Try.func18, Try.ntmps18
  go_wp2
  go_returns
  exact ⟨_, rfl, .inl ⟨rfl, _, _, rfl, by decide⟩, by go_grown⟩
theorem make12 (l : Int) (x : Bool) (R : Nat) (w : World) : Calls Try.prog 18 #[.int .i64 12, .int .i32 l, .bool x] w
    fun e w' => ∃ d, e = .returned (.agg #[d, .int .i32 l]) ∧ Cares w' R d false ∧ Below w.heap.size w w' := by
  go_enter Try.func18, Try.ntmps18
  go_wp2
  go_returns
  exact ⟨_, rfl, .inl ⟨rfl, _, _, rfl, by decide⟩, by go_grown⟩
theorem make13 (l : Int) (x : Bool) (R : Nat) (w : World) : Calls Try.prog 18 #[.int .i64 13, .int .i32 l, .bool x] w
    fun e w' => ∃ d, e = .returned (.agg #[d, .int .i32 l]) ∧ Cares w' R d false ∧ Below w.heap.size w w' := by
  go_enter Try.func18, Try.ntmps18
  go_wp2
  go_returns
  exact ⟨_, rfl, .inl ⟨rfl, _, _, rfl, by decide⟩, by go_grown⟩
theorem make14 (l : Int) (x : Bool) (R : Nat) (w : World) : Calls Try.prog 18 #[.int .i64 14, .int .i32 l, .bool x] w
    fun e w' => ∃ d, e = .returned (.agg #[d, .int .i32 l]) ∧ Cares w' R d false ∧ Below w.heap.size w w' := by
  go_enter Try.func18, Try.ntmps18
  go_wp2
  go_returns
  exact ⟨_, rfl, .inl ⟨rfl, _, _, rfl, by decide⟩, by go_grown⟩
theorem make15 (l : Int) (x : Bool) (R : Nat) (w : World) : Calls Try.prog 18 #[.int .i64 15, .int .i32 l, .bool x] w
    fun e w' => ∃ d, e = .returned (.agg #[d, .int .i32 l]) ∧ Cares w' R d false ∧ Below w.heap.size w w' := by
  go_enter Try.func18, Try.ntmps18
  go_wp2
  go_returns
  exact ⟨_, rfl, .inl ⟨rfl, _, _, rfl, by decide⟩, by go_grown⟩
theorem make16 (l : Int) (x : Bool) (R : Nat) (w : World) : Calls Try.prog 18 #[.int .i64 16, .int .i32 l, .bool x] w
    fun e w' => ∃ d, e = .returned (.agg #[d, .int .i32 l]) ∧ Cares w' R d false ∧ Below w.heap.size w w' := by
  go_enter Try.func18, Try.ntmps18
  go_wp2
  go_returns
  exact ⟨_, rfl, .inl ⟨rfl, _, _, rfl, by decide⟩, by go_grown⟩
theorem make17 (l : Int) (x : Bool) (R : Nat) (w : World) : Calls Try.prog 18 #[.int .i64 17, .int .i32 l, .bool x] w
    fun e w' => ∃ d, e = .returned (.agg #[d, .int .i32 l]) ∧ Cares w' R d false ∧ Below w.heap.size w w' := by
  go_enter Try.func18, Try.ntmps18
  go_wp2
  go_returns
  exact ⟨_, rfl, .inl ⟨rfl, _, _, rfl, by decide⟩, by go_grown⟩
theorem make18 (l : Int) (x : Bool) (R : Nat) (w : World) : Calls Try.prog 18 #[.int .i64 18, .int .i32 l, .bool x] w
    fun e w' => ∃ d, e = .returned (.agg #[d, .int .i32 l]) ∧ Cares w' R d false ∧ Below w.heap.size w w' := by
  go_enter Try.func18, Try.ntmps18
  go_wp2
  go_returns
  exact ⟨_, rfl, .inl ⟨rfl, _, _, rfl, by decide⟩, by go_grown⟩
theorem make19 (l : Int) (x : Bool) (R : Nat) (w : World) (hR : R < w.heap.size) : Calls Try.prog 18 #[.int .i64 19, .int .i32 l, .bool x] w
    fun e w' => ∃ d, e = .returned (.agg #[d, .int .i32 l]) ∧ Cares w' R d false ∧ Below w.heap.size w w' := by
  go_enter Try.func18, Try.ntmps18
  go_wp2
  go_returns
  exact ⟨_, rfl, .inr (.inr (.inr ⟨_, 0, rfl, by go_simp, rfl, by omega⟩)), by go_grown⟩
theorem make20 (l : Int) (x : Bool) (R : Nat) (w : World) (hR : R < w.heap.size) : Calls Try.prog 18 #[.int .i64 20, .int .i32 l, .bool x] w
    fun e w' => ∃ d, e = .returned (.agg #[d, .int .i32 l]) ∧ Cares w' R d true ∧ Below w.heap.size w w' := by
  go_enter Try.func18, Try.ntmps18
  go_wp2
  go_returns
  exact ⟨_, rfl, .inr (.inr (.inr ⟨_, 1, rfl, by go_simp, rfl, by omega⟩)), by go_grown⟩
theorem make21 (l : Int) (x : Bool) (R : Nat) (w : World) (hR : R < w.heap.size) : Calls Try.prog 18 #[.int .i64 21, .int .i32 l, .bool x] w
    fun e w' => ∃ d, e = .returned (.agg #[d, .int .i32 l]) ∧ Cares w' R d true ∧ Below w.heap.size w w' := by
  go_enter Try.func18, Try.ntmps18
  go_wp2
  go_returns
  exact ⟨_, rfl, .inr (.inr (.inr ⟨_, 2, rfl, by go_simp, rfl, by omega⟩)), by go_grown⟩
theorem make22 (l : Int) (x : Bool) (R : Nat) (w : World) : Calls Try.prog 18 #[.int .i64 22, .int .i32 l, .bool x] w
    fun e w' => ∃ d, e = .returned (.agg #[d, .int .i32 l]) ∧ Cares w' R d true ∧ Below w.heap.size w w' := by
  go_enter Try.func18, Try.ntmps18
  go_wp2
  go_returns
  exact ⟨_, rfl, .inr (.inr (.inl ⟨rfl, _, _, rfl, by decide⟩)), by go_grown⟩
theorem make23 (l : Int) (x : Bool) (R : Nat) (w : World) : Calls Try.prog 18 #[.int .i64 23, .int .i32 l, .bool x] w
    fun e w' => ∃ d, e = .returned (.agg #[d, .int .i32 l]) ∧ Cares w' R d true ∧ Below w.heap.size w w' := by
  go_enter Try.func18, Try.ntmps18
  go_wp2
  go_returns
  exact ⟨_, rfl, .inr (.inr (.inl ⟨rfl, _, _, rfl, by decide⟩)), by go_grown⟩
theorem make24 (l : Int) (x : Bool) (R : Nat) (w : World) : Calls Try.prog 18 #[.int .i64 24, .int .i32 l, .bool x] w
    fun e w' => ∃ d, e = .returned (.agg #[d, .int .i32 l]) ∧ Cares w' R d true ∧ Below w.heap.size w w' := by
  go_enter Try.func18, Try.ntmps18
  go_wp2
  go_returns
  exact ⟨_, rfl, .inr (.inr (.inl ⟨rfl, _, _, rfl, by decide⟩)), by go_grown⟩
theorem make25 (l : Int) (x : Bool) (R : Nat) (w : World) : Calls Try.prog 18 #[.int .i64 25, .int .i32 l, .bool x] w
    fun e w' => ∃ d, e = .returned (.agg #[d, .int .i32 l]) ∧ Cares w' R d true ∧ Below w.heap.size w w' := by
  go_enter Try.func18, Try.ntmps18
  go_wp2
  go_returns
  exact ⟨_, rfl, .inr (.inl ⟨rfl, rfl⟩), by go_grown⟩
theorem make (k l : Int) (x : Bool) (R : Nat) (w : World) (hR : R < w.heap.size) (h1 : 0 ≤ k) (h2 : k < 26) : Calls Try.prog 18 #[.int .i64 k, .int .i32 l, .bool x] w
    fun e w' => ∃ d, e = .returned (.agg #[d, .int .i32 l]) ∧ Cares w' R d (decide (20 ≤ k)) ∧ Below w.heap.size w w' := by
  have hc : k = 0 ∨ k = 1 ∨ k = 2 ∨ k = 3 ∨ k = 4 ∨ k = 5 ∨ k = 6 ∨ k = 7 ∨ k = 8 ∨ k = 9 ∨ k = 10 ∨ k = 11 ∨ k = 12 ∨ k = 13 ∨ k = 14 ∨ k = 15 ∨ k = 16 ∨ k = 17 ∨ k = 18 ∨ k = 19 ∨ k = 20 ∨ k = 21 ∨ k = 22 ∨ k = 23 ∨ k = 24 ∨ k = 25 := by omega
  rcases hc with rfl | rfl | rfl | rfl | rfl | rfl | rfl | rfl | rfl | rfl | rfl | rfl | rfl | rfl | rfl | rfl | rfl | rfl | rfl | rfl | rfl | rfl | rfl | rfl | rfl | rfl
  · exact make0 l x R w
  · exact make1 l x R w
  · exact make2 l x R w
  · exact make3 l x R w
  · exact make4 l x R w
  · exact make5 l x R w
  · exact make6 l x R w
  · exact make7 l x R w
  · exact make8 l x R w
  · exact make9 l x R w
  · exact make10 l x R w
  · exact make11 l x R w
  · exact make12 l x R w
  · exact make13 l x R w
  · exact make14 l x R w
  · exact make15 l x R w
  · exact make16 l x R w
  · exact make17 l x R w
  · exact make18 l x R w
  · exact make19 l x R w hR
  · exact make20 l x R w hR
  · exact make21 l x R w hR
  · exact make22 l x R w
  · exact make23 l x R w
  · exact make24 l x R w
  · exact make25 l x R w

end Go.Proofs.Ytgefhkjidldjlab.fnStmtsCareAboutScopeIsAnyOfTable
