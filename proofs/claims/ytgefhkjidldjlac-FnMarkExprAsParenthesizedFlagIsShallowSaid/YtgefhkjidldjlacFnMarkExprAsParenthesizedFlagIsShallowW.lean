import Derived.Test.YtgefhkjidldjlacKit
import Derived.Test.YtgefhkjidldjlacMarkC
namespace Go.Proofs.Ytgefhkjidldjlac.fnMarkExprAsParenthesizedFlagIsShallow
open Go.ChangeShapes Go.WideShapes Go.ChangeAt Go.RowKit
set_option linter.unusedVariables false
set_option maxRecDepth 100000
set_option maxHeartbeats 2000000

theorem case0 (a0 : Int) (a1 : Bool) (a2 : Int) (w : World) (h0 : 0 ≤ a0) (h : a0 % 9 = 0) :
    Calls Try.prog 6 #[.int .u8 a0, .bool a1, .int .i32 a2] w fun e w' => e = .returned (.bool true) ∧ Below w.heap.size w w' := by
  have hmm := @run_makeMap Try.prog
  go_enter Try.func6, Try.ntmps6
  go_wp2_with (first | (go_at_call 33; go_in))
  refine (mark53 _ 0 _ _ _ _ _ ?_ (.bool false) ?_ ?_ ?_ ?_).mono ?_
  · exact (Below.block (B := w.heap.size + 1) (w := w.alloc (.map #[] 0)) (by go_grown) _ (by omega)).trans (heap_alloc_new _ _)
  · go_simp
  · go_simp
  · go_size
  · go_size
  rintro e w1 ⟨rfl, h1⟩
  have hM1 : w1.heap[w.heap.size]? = some (.map #[] 0) := (h1.block _ (by go_size)).trans ((Below.heap_setCell _ _ _ _ (by show w.heap.size ≠ w.heap.size + 1 + 1 + 1 + 1 + 1 + 1 + 1 + 1 + 1 + 1; omega)).trans ((Below.block (B := w.heap.size + 1) (w := w.alloc (.map #[] 0)) (by go_grown) _ (by omega)).trans (heap_alloc_new _ _)))
  have HM1 := Lib.hid hM1
  clear hM1
  have z1 : w.heap.size + 1 + 1 + 1 + 1 + 1 + 1 + 1 + 1 + 1 + 1 + 1 + 1 ≤ w1.heap.size := by
    have := h1.size
    simp only [World.size_setCell, World.size_alloc] at this
    omega
  have c1t : w1.cell? ⟨w.heap.size + 1 + 1 + 1 + 1 + 1 + 1 + 1 + 1 + 1 + 1, 4, none⟩ = some (.bool true) := by rw [h1.cell (p := ⟨w.heap.size + 1 + 1 + 1 + 1 + 1 + 1 + 1 + 1 + 1 + 1, 4, none⟩) (by go_size)]; go_simp
  have c1i0 : w1.cell? ⟨w.heap.size + 1 + 1, 4, none⟩ = some (.bool false) := by rw [h1.cell (p := ⟨w.heap.size + 1 + 1, 4, none⟩) (by go_size)]; go_simp
  have c1i1 : w1.cell? ⟨w.heap.size + 1 + 1 + 1, 4, none⟩ = some (.bool false) := by rw [h1.cell (p := ⟨w.heap.size + 1 + 1 + 1, 4, none⟩) (by go_size)]; go_simp
  have c1i2 : w1.cell? ⟨w.heap.size + 1 + 1 + 1 + 1 + 1 + 1 + 1 + 1, 5, none⟩ = some (.bool false) := by rw [h1.cell (p := ⟨w.heap.size + 1 + 1 + 1 + 1 + 1 + 1 + 1 + 1, 5, none⟩) (by go_size)]; go_simp
  have f1t : w1.frozen? ⟨w.heap.size + 1 + 1 + 1 + 1 + 1 + 1 + 1 + 1 + 1 + 1, 4, none⟩ = false := by rw [h1.frozen (p := ⟨w.heap.size + 1 + 1 + 1 + 1 + 1 + 1 + 1 + 1 + 1 + 1, 4, none⟩) (by go_size)]; go_simp
  have c1at : w1.cell? ⟨w.heap.size + 1, 0, none⟩ = some (.int .i32 a2) := by rw [h1.cell (p := ⟨w.heap.size + 1, 0, none⟩) (by go_size)]; go_simp
  have c1v0 : w1.cell? ⟨w.heap.size + 1 + 1 + 1 + 1 + 1 + 1 + 1 + 1 + 1 + 1 + 1, 0, none⟩ = some (.iface 53 (.pointer (some ⟨w.heap.size + 1 + 1 + 1 + 1 + 1 + 1 + 1 + 1 + 1 + 1, 0, none⟩))) := by rw [h1.cell (p := ⟨w.heap.size + 1 + 1 + 1 + 1 + 1 + 1 + 1 + 1 + 1 + 1 + 1, 0, none⟩) (by go_size)]; go_simp
  have c1v1 : w1.cell? ⟨w.heap.size + 1 + 1 + 1 + 1 + 1 + 1 + 1 + 1 + 1 + 1 + 1, 1, none⟩ = some (.int .i32 0) := by rw [h1.cell (p := ⟨w.heap.size + 1 + 1 + 1 + 1 + 1 + 1 + 1 + 1 + 1 + 1 + 1, 1, none⟩) (by go_size)]; go_simp
  have hb1 : Below w.heap.size w w1 := by
    refine Below.trans ?_ (h1.mono (by go_size))
    go_grown
  clear h1
  go_wp2_with fail
  refine (mark53 _ 0 _ _ _ _ _ HM1.out (.bool true) c1t f1t (by omega) (by omega)).mono ?_
  rintro e w2 ⟨rfl, h2⟩
  have hM2 := len_empty w.heap.size 0 w2 ((h2.block _ (by omega)).trans ((Below.heap_setCell _ _ _ _ (by show w.heap.size ≠ w.heap.size + 1 + 1 + 1 + 1 + 1 + 1 + 1 + 1 + 1 + 1; omega)).trans HM1.out))
  have c2t : w2.cell? ⟨w.heap.size + 1 + 1 + 1 + 1 + 1 + 1 + 1 + 1 + 1 + 1, 4, none⟩ = some (.bool true) := by rw [h2.cell (p := ⟨w.heap.size + 1 + 1 + 1 + 1 + 1 + 1 + 1 + 1 + 1 + 1, 4, none⟩) (by show w.heap.size + 1 + 1 + 1 + 1 + 1 + 1 + 1 + 1 + 1 + 1 < _; omega)]; go_simp
  have c2i0 : w2.cell? ⟨w.heap.size + 1 + 1, 4, none⟩ = some (.bool false) := by rw [h2.cell (p := ⟨w.heap.size + 1 + 1, 4, none⟩) (by show w.heap.size + 1 + 1 < _; omega)]; go_simp
  have c2i1 : w2.cell? ⟨w.heap.size + 1 + 1 + 1, 4, none⟩ = some (.bool false) := by rw [h2.cell (p := ⟨w.heap.size + 1 + 1 + 1, 4, none⟩) (by show w.heap.size + 1 + 1 + 1 < _; omega)]; go_simp
  have c2i2 : w2.cell? ⟨w.heap.size + 1 + 1 + 1 + 1 + 1 + 1 + 1 + 1, 5, none⟩ = some (.bool false) := by rw [h2.cell (p := ⟨w.heap.size + 1 + 1 + 1 + 1 + 1 + 1 + 1 + 1, 5, none⟩) (by show w.heap.size + 1 + 1 + 1 + 1 + 1 + 1 + 1 + 1 < _; omega)]; go_simp
  have hb2 : Below w.heap.size w w2 := by
    refine hb1.trans (Below.trans (Below.setCell (Below.refl _ _) (p := ⟨w.heap.size + 1 + 1 + 1 + 1 + 1 + 1 + 1 + 1 + 1 + 1, 4, none⟩) (by show w.heap.size ≤ w.heap.size + 1 + 1 + 1 + 1 + 1 + 1 + 1 + 1 + 1 + 1; omega) (.bool true)) (h2.mono (by omega)))
  clear h2 HM1 hb1
  go_wp2
  go_ret
  exact ⟨rfl, hb2⟩

theorem case1 (a0 : Int) (a1 : Bool) (a2 : Int) (w : World) (h0 : 0 ≤ a0) (h : a0 % 9 = 1) :
    Calls Try.prog 6 #[.int .u8 a0, .bool a1, .int .i32 a2] w fun e w' => e = .returned (.bool true) ∧ Below w.heap.size w w' := by
  have hmm := @run_makeMap Try.prog
  go_enter Try.func6, Try.ntmps6
  go_wp2_with (first | (go_at_call 33; go_in))
  refine (mark57 _ 0 _ _ _ _ _ ?_ (.bool false) ?_ ?_ ?_ ?_).mono ?_
  · exact (Below.block (B := w.heap.size + 1) (w := w.alloc (.map #[] 0)) (by go_grown) _ (by omega)).trans (heap_alloc_new _ _)
  · go_simp
  · go_simp
  · go_size
  · go_size
  rintro e w1 ⟨rfl, h1⟩
  have hM1 : w1.heap[w.heap.size]? = some (.map #[] 0) := (h1.block _ (by go_size)).trans ((Below.heap_setCell _ _ _ _ (by show w.heap.size ≠ w.heap.size + 1 + 1 + 1 + 1; omega)).trans ((Below.block (B := w.heap.size + 1) (w := w.alloc (.map #[] 0)) (by go_grown) _ (by omega)).trans (heap_alloc_new _ _)))
  have HM1 := Lib.hid hM1
  clear hM1
  have z1 : w.heap.size + 1 + 1 + 1 + 1 + 1 + 1 ≤ w1.heap.size := by
    have := h1.size
    simp only [World.size_setCell, World.size_alloc] at this
    omega
  have c1t : w1.cell? ⟨w.heap.size + 1 + 1 + 1 + 1, 4, none⟩ = some (.bool true) := by rw [h1.cell (p := ⟨w.heap.size + 1 + 1 + 1 + 1, 4, none⟩) (by go_size)]; go_simp
  have c1i0 : w1.cell? ⟨w.heap.size + 1 + 1, 4, none⟩ = some (.bool false) := by rw [h1.cell (p := ⟨w.heap.size + 1 + 1, 4, none⟩) (by go_size)]; go_simp
  have f1t : w1.frozen? ⟨w.heap.size + 1 + 1 + 1 + 1, 4, none⟩ = false := by rw [h1.frozen (p := ⟨w.heap.size + 1 + 1 + 1 + 1, 4, none⟩) (by go_size)]; go_simp
  have c1at : w1.cell? ⟨w.heap.size + 1, 0, none⟩ = some (.int .i32 a2) := by rw [h1.cell (p := ⟨w.heap.size + 1, 0, none⟩) (by go_size)]; go_simp
  have c1v0 : w1.cell? ⟨w.heap.size + 1 + 1 + 1 + 1 + 1, 0, none⟩ = some (.iface 57 (.pointer (some ⟨w.heap.size + 1 + 1 + 1 + 1, 0, none⟩))) := by rw [h1.cell (p := ⟨w.heap.size + 1 + 1 + 1 + 1 + 1, 0, none⟩) (by go_size)]; go_simp
  have c1v1 : w1.cell? ⟨w.heap.size + 1 + 1 + 1 + 1 + 1, 1, none⟩ = some (.int .i32 0) := by rw [h1.cell (p := ⟨w.heap.size + 1 + 1 + 1 + 1 + 1, 1, none⟩) (by go_size)]; go_simp
  have hb1 : Below w.heap.size w w1 := by
    refine Below.trans ?_ (h1.mono (by go_size))
    go_grown
  clear h1
  go_wp2_with fail
  refine (mark57 _ 0 _ _ _ _ _ HM1.out (.bool true) c1t f1t (by omega) (by omega)).mono ?_
  rintro e w2 ⟨rfl, h2⟩
  have hM2 := len_empty w.heap.size 0 w2 ((h2.block _ (by omega)).trans ((Below.heap_setCell _ _ _ _ (by show w.heap.size ≠ w.heap.size + 1 + 1 + 1 + 1; omega)).trans HM1.out))
  have c2t : w2.cell? ⟨w.heap.size + 1 + 1 + 1 + 1, 4, none⟩ = some (.bool true) := by rw [h2.cell (p := ⟨w.heap.size + 1 + 1 + 1 + 1, 4, none⟩) (by show w.heap.size + 1 + 1 + 1 + 1 < _; omega)]; go_simp
  have c2i0 : w2.cell? ⟨w.heap.size + 1 + 1, 4, none⟩ = some (.bool false) := by rw [h2.cell (p := ⟨w.heap.size + 1 + 1, 4, none⟩) (by show w.heap.size + 1 + 1 < _; omega)]; go_simp
  have hb2 : Below w.heap.size w w2 := by
    refine hb1.trans (Below.trans (Below.setCell (Below.refl _ _) (p := ⟨w.heap.size + 1 + 1 + 1 + 1, 4, none⟩) (by show w.heap.size ≤ w.heap.size + 1 + 1 + 1 + 1; omega) (.bool true)) (h2.mono (by omega)))
  clear h2 HM1 hb1
  go_wp2
  go_ret
  exact ⟨rfl, hb2⟩

theorem case2 (a0 : Int) (a1 : Bool) (a2 : Int) (w : World) (h0 : 0 ≤ a0) (h : a0 % 9 = 2) :
    Calls Try.prog 6 #[.int .u8 a0, .bool a1, .int .i32 a2] w fun e w' => e = .returned (.bool true) ∧ Below w.heap.size w w' := by
  have hmm := @run_makeMap Try.prog
  go_enter Try.func6, Try.ntmps6
  go_wp2_with (first | (go_at_call 33; go_in))
  refine (mark75 _ 0 _ _ _ _ _ ?_ (.bool false) ?_ ?_ ?_ ?_).mono ?_
  · exact (Below.block (B := w.heap.size + 1) (w := w.alloc (.map #[] 0)) (by go_grown) _ (by omega)).trans (heap_alloc_new _ _)
  · go_simp
  · go_simp
  · go_size
  · go_size
  rintro e w1 ⟨rfl, h1⟩
  have hM1 : w1.heap[w.heap.size]? = some (.map #[] 0) := (h1.block _ (by go_size)).trans ((Below.heap_setCell _ _ _ _ (by show w.heap.size ≠ w.heap.size + 1 + 1; omega)).trans ((Below.block (B := w.heap.size + 1) (w := w.alloc (.map #[] 0)) (by go_grown) _ (by omega)).trans (heap_alloc_new _ _)))
  have HM1 := Lib.hid hM1
  clear hM1
  have z1 : w.heap.size + 1 + 1 + 1 + 1 ≤ w1.heap.size := by
    have := h1.size
    simp only [World.size_setCell, World.size_alloc] at this
    omega
  have c1t : w1.cell? ⟨w.heap.size + 1 + 1, 14, none⟩ = some (.bool true) := by rw [h1.cell (p := ⟨w.heap.size + 1 + 1, 14, none⟩) (by go_size)]; go_simp
  have f1t : w1.frozen? ⟨w.heap.size + 1 + 1, 14, none⟩ = false := by rw [h1.frozen (p := ⟨w.heap.size + 1 + 1, 14, none⟩) (by go_size)]; go_simp
  have c1at : w1.cell? ⟨w.heap.size + 1, 0, none⟩ = some (.int .i32 a2) := by rw [h1.cell (p := ⟨w.heap.size + 1, 0, none⟩) (by go_size)]; go_simp
  have c1v0 : w1.cell? ⟨w.heap.size + 1 + 1 + 1, 0, none⟩ = some (.iface 75 (.pointer (some ⟨w.heap.size + 1 + 1, 0, none⟩))) := by rw [h1.cell (p := ⟨w.heap.size + 1 + 1 + 1, 0, none⟩) (by go_size)]; go_simp
  have c1v1 : w1.cell? ⟨w.heap.size + 1 + 1 + 1, 1, none⟩ = some (.int .i32 0) := by rw [h1.cell (p := ⟨w.heap.size + 1 + 1 + 1, 1, none⟩) (by go_size)]; go_simp
  have hb1 : Below w.heap.size w w1 := by
    refine Below.trans ?_ (h1.mono (by go_size))
    go_grown
  clear h1
  go_wp2_with fail
  refine (mark75 _ 0 _ _ _ _ _ HM1.out (.bool true) c1t f1t (by omega) (by omega)).mono ?_
  rintro e w2 ⟨rfl, h2⟩
  have hM2 := len_empty w.heap.size 0 w2 ((h2.block _ (by omega)).trans ((Below.heap_setCell _ _ _ _ (by show w.heap.size ≠ w.heap.size + 1 + 1; omega)).trans HM1.out))
  have c2t : w2.cell? ⟨w.heap.size + 1 + 1, 14, none⟩ = some (.bool true) := by rw [h2.cell (p := ⟨w.heap.size + 1 + 1, 14, none⟩) (by show w.heap.size + 1 + 1 < _; omega)]; go_simp
  have hb2 : Below w.heap.size w w2 := by
    refine hb1.trans (Below.trans (Below.setCell (Below.refl _ _) (p := ⟨w.heap.size + 1 + 1, 14, none⟩) (by show w.heap.size ≤ w.heap.size + 1 + 1; omega) (.bool true)) (h2.mono (by omega)))
  clear h2 HM1 hb1
  go_wp2
  go_ret
  exact ⟨rfl, hb2⟩

theorem case3 (a0 : Int) (a1 : Bool) (a2 : Int) (w : World) (h0 : 0 ≤ a0) (h : a0 % 9 = 3) :
    Calls Try.prog 6 #[.int .u8 a0, .bool a1, .int .i32 a2] w fun e w' => e = .returned (.bool true) ∧ Below w.heap.size w w' := by
  have hmm := @run_makeMap Try.prog
  go_enter Try.func6, Try.ntmps6
  go_wp2_with (first | (go_at_call 33; go_in))
  refine (mark87 _ 0 _ _ _ _ _ ?_ (.bool false) ?_ ?_ ?_ ?_).mono ?_
  · exact (Below.block (B := w.heap.size + 1) (w := w.alloc (.map #[] 0)) (by go_grown) _ (by omega)).trans (heap_alloc_new _ _)
  · go_simp
  · go_simp
  · go_size
  · go_size
  rintro e w1 ⟨rfl, h1⟩
  have hM1 : w1.heap[w.heap.size]? = some (.map #[] 0) := (h1.block _ (by go_size)).trans ((Below.heap_setCell _ _ _ _ (by show w.heap.size ≠ w.heap.size + 1 + 1; omega)).trans ((Below.block (B := w.heap.size + 1) (w := w.alloc (.map #[] 0)) (by go_grown) _ (by omega)).trans (heap_alloc_new _ _)))
  have HM1 := Lib.hid hM1
  clear hM1
  have z1 : w.heap.size + 1 + 1 + 1 + 1 ≤ w1.heap.size := by
    have := h1.size
    simp only [World.size_setCell, World.size_alloc] at this
    omega
  have c1t : w1.cell? ⟨w.heap.size + 1 + 1, 7, none⟩ = some (.bool true) := by rw [h1.cell (p := ⟨w.heap.size + 1 + 1, 7, none⟩) (by go_size)]; go_simp
  have f1t : w1.frozen? ⟨w.heap.size + 1 + 1, 7, none⟩ = false := by rw [h1.frozen (p := ⟨w.heap.size + 1 + 1, 7, none⟩) (by go_size)]; go_simp
  have c1at : w1.cell? ⟨w.heap.size + 1, 0, none⟩ = some (.int .i32 a2) := by rw [h1.cell (p := ⟨w.heap.size + 1, 0, none⟩) (by go_size)]; go_simp
  have c1v0 : w1.cell? ⟨w.heap.size + 1 + 1 + 1, 0, none⟩ = some (.iface 87 (.pointer (some ⟨w.heap.size + 1 + 1, 0, none⟩))) := by rw [h1.cell (p := ⟨w.heap.size + 1 + 1 + 1, 0, none⟩) (by go_size)]; go_simp
  have c1v1 : w1.cell? ⟨w.heap.size + 1 + 1 + 1, 1, none⟩ = some (.int .i32 0) := by rw [h1.cell (p := ⟨w.heap.size + 1 + 1 + 1, 1, none⟩) (by go_size)]; go_simp
  have hb1 : Below w.heap.size w w1 := by
    refine Below.trans ?_ (h1.mono (by go_size))
    go_grown
  clear h1
  go_wp2_with fail
  refine (mark87 _ 0 _ _ _ _ _ HM1.out (.bool true) c1t f1t (by omega) (by omega)).mono ?_
  rintro e w2 ⟨rfl, h2⟩
  have hM2 := len_empty w.heap.size 0 w2 ((h2.block _ (by omega)).trans ((Below.heap_setCell _ _ _ _ (by show w.heap.size ≠ w.heap.size + 1 + 1; omega)).trans HM1.out))
  have c2t : w2.cell? ⟨w.heap.size + 1 + 1, 7, none⟩ = some (.bool true) := by rw [h2.cell (p := ⟨w.heap.size + 1 + 1, 7, none⟩) (by show w.heap.size + 1 + 1 < _; omega)]; go_simp
  have hb2 : Below w.heap.size w w2 := by
    refine hb1.trans (Below.trans (Below.setCell (Below.refl _ _) (p := ⟨w.heap.size + 1 + 1, 7, none⟩) (by show w.heap.size ≤ w.heap.size + 1 + 1; omega) (.bool true)) (h2.mono (by omega)))
  clear h2 HM1 hb1
  go_wp2
  go_ret
  exact ⟨rfl, hb2⟩

theorem case4 (a0 : Int) (a1 : Bool) (a2 : Int) (w : World) (h0 : 0 ≤ a0) (h : a0 % 9 = 4) :
    Calls Try.prog 6 #[.int .u8 a0, .bool a1, .int .i32 a2] w fun e w' => e = .returned (.bool true) ∧ Below w.heap.size w w' := by
  have hmm := @run_makeMap Try.prog
  go_enter Try.func6, Try.ntmps6
  go_wp2_with (first | (go_at_call 33; go_in))
  refine (mark61 _ 0 _ _ _ _ _ ?_ (.bool false) ?_ ?_ ?_ ?_).mono ?_
  · exact (Below.block (B := w.heap.size + 1) (w := w.alloc (.map #[] 0)) (by go_grown) _ (by omega)).trans (heap_alloc_new _ _)
  · go_simp
  · go_simp
  · go_size
  · go_size
  rintro e w1 ⟨rfl, h1⟩
  have hM1 : w1.heap[w.heap.size]? = some (.map #[] 0) := (h1.block _ (by go_size)).trans ((Below.heap_setCell _ _ _ _ (by show w.heap.size ≠ w.heap.size + 1 + 1 + 1 + 1 + 1 + 1 + 1; omega)).trans ((Below.block (B := w.heap.size + 1) (w := w.alloc (.map #[] 0)) (by go_grown) _ (by omega)).trans (heap_alloc_new _ _)))
  have HM1 := Lib.hid hM1
  clear hM1
  have z1 : w.heap.size + 1 + 1 + 1 + 1 + 1 + 1 + 1 + 1 + 1 ≤ w1.heap.size := by
    have := h1.size
    simp only [World.size_setCell, World.size_alloc] at this
    omega
  have c1t : w1.cell? ⟨w.heap.size + 1 + 1 + 1 + 1 + 1 + 1 + 1, 5, none⟩ = some (.bool true) := by rw [h1.cell (p := ⟨w.heap.size + 1 + 1 + 1 + 1 + 1 + 1 + 1, 5, none⟩) (by go_size)]; go_simp
  have c1i0 : w1.cell? ⟨w.heap.size + 1 + 1, 4, none⟩ = some (.bool false) := by rw [h1.cell (p := ⟨w.heap.size + 1 + 1, 4, none⟩) (by go_size)]; go_simp
  have c1i1 : w1.cell? ⟨w.heap.size + 1 + 1 + 1, 4, none⟩ = some (.bool false) := by rw [h1.cell (p := ⟨w.heap.size + 1 + 1 + 1, 4, none⟩) (by go_size)]; go_simp
  have c1i2 : w1.cell? ⟨w.heap.size + 1 + 1 + 1 + 1 + 1 + 1, 5, none⟩ = some (.bool false) := by rw [h1.cell (p := ⟨w.heap.size + 1 + 1 + 1 + 1 + 1 + 1, 5, none⟩) (by go_size)]; go_simp
  have f1t : w1.frozen? ⟨w.heap.size + 1 + 1 + 1 + 1 + 1 + 1 + 1, 5, none⟩ = false := by rw [h1.frozen (p := ⟨w.heap.size + 1 + 1 + 1 + 1 + 1 + 1 + 1, 5, none⟩) (by go_size)]; go_simp
  have c1at : w1.cell? ⟨w.heap.size + 1, 0, none⟩ = some (.int .i32 a2) := by rw [h1.cell (p := ⟨w.heap.size + 1, 0, none⟩) (by go_size)]; go_simp
  have c1v0 : w1.cell? ⟨w.heap.size + 1 + 1 + 1 + 1 + 1 + 1 + 1 + 1, 0, none⟩ = some (.iface 61 (.pointer (some ⟨w.heap.size + 1 + 1 + 1 + 1 + 1 + 1 + 1, 0, none⟩))) := by rw [h1.cell (p := ⟨w.heap.size + 1 + 1 + 1 + 1 + 1 + 1 + 1 + 1, 0, none⟩) (by go_size)]; go_simp
  have c1v1 : w1.cell? ⟨w.heap.size + 1 + 1 + 1 + 1 + 1 + 1 + 1 + 1, 1, none⟩ = some (.int .i32 0) := by rw [h1.cell (p := ⟨w.heap.size + 1 + 1 + 1 + 1 + 1 + 1 + 1 + 1, 1, none⟩) (by go_size)]; go_simp
  have hb1 : Below w.heap.size w w1 := by
    refine Below.trans ?_ (h1.mono (by go_size))
    go_grown
  clear h1
  go_wp2_with fail
  refine (mark61 _ 0 _ _ _ _ _ HM1.out (.bool true) c1t f1t (by omega) (by omega)).mono ?_
  rintro e w2 ⟨rfl, h2⟩
  have hM2 := len_empty w.heap.size 0 w2 ((h2.block _ (by omega)).trans ((Below.heap_setCell _ _ _ _ (by show w.heap.size ≠ w.heap.size + 1 + 1 + 1 + 1 + 1 + 1 + 1; omega)).trans HM1.out))
  have c2t : w2.cell? ⟨w.heap.size + 1 + 1 + 1 + 1 + 1 + 1 + 1, 5, none⟩ = some (.bool true) := by rw [h2.cell (p := ⟨w.heap.size + 1 + 1 + 1 + 1 + 1 + 1 + 1, 5, none⟩) (by show w.heap.size + 1 + 1 + 1 + 1 + 1 + 1 + 1 < _; omega)]; go_simp
  have c2i0 : w2.cell? ⟨w.heap.size + 1 + 1, 4, none⟩ = some (.bool false) := by rw [h2.cell (p := ⟨w.heap.size + 1 + 1, 4, none⟩) (by show w.heap.size + 1 + 1 < _; omega)]; go_simp
  have c2i1 : w2.cell? ⟨w.heap.size + 1 + 1 + 1, 4, none⟩ = some (.bool false) := by rw [h2.cell (p := ⟨w.heap.size + 1 + 1 + 1, 4, none⟩) (by show w.heap.size + 1 + 1 + 1 < _; omega)]; go_simp
  have c2i2 : w2.cell? ⟨w.heap.size + 1 + 1 + 1 + 1 + 1 + 1, 5, none⟩ = some (.bool false) := by rw [h2.cell (p := ⟨w.heap.size + 1 + 1 + 1 + 1 + 1 + 1, 5, none⟩) (by show w.heap.size + 1 + 1 + 1 + 1 + 1 + 1 < _; omega)]; go_simp
  have hb2 : Below w.heap.size w w2 := by
    refine hb1.trans (Below.trans (Below.setCell (Below.refl _ _) (p := ⟨w.heap.size + 1 + 1 + 1 + 1 + 1 + 1 + 1, 5, none⟩) (by show w.heap.size ≤ w.heap.size + 1 + 1 + 1 + 1 + 1 + 1 + 1; omega) (.bool true)) (h2.mono (by omega)))
  clear h2 HM1 hb1
  go_wp2
  go_ret
  exact ⟨rfl, hb2⟩

theorem case5 (a0 : Int) (a1 : Bool) (a2 : Int) (w : World) (h0 : 0 ≤ a0) (h : a0 % 9 = 5) :
    Calls Try.prog 6 #[.int .u8 a0, .bool a1, .int .i32 a2] w fun e w' => e = .returned (.bool true) ∧ Below w.heap.size w w' := by
  have hmm := @run_makeMap Try.prog
  go_enter Try.func6, Try.ntmps6
  go_wp2_with (first | (go_at_call 33; go_in))
  refine (markNone _ _ 0 _ _ _ _ _ ?_ (by decide) (by decide) (by decide) (by decide) (by decide) ?_).mono ?_
  · exact (Below.block (B := w.heap.size + 1) (w := w.alloc (.map #[] 0)) (by go_grown) _ (by omega)).trans (heap_alloc_new _ _)
  · go_size
  rintro e w1 ⟨rfl, h1⟩
  have hM2 := len_empty w.heap.size 0 w1 ((h1.block _ (by go_size)).trans ((Below.block (B := w.heap.size + 1) (w := w.alloc (.map #[] 0)) (by go_grown) _ (by omega)).trans (heap_alloc_new _ _)))
  have c1i0 : w1.cell? ⟨w.heap.size + 1 + 1, 4, none⟩ = some (.bool false) := by rw [h1.cell (p := ⟨w.heap.size + 1 + 1, 4, none⟩) (by go_size)]; go_simp
  have hb1 : Below w.heap.size w w1 := by
    refine Below.trans ?_ (h1.mono (by go_size))
    go_grown
  clear h1
  go_wp2
  go_ret
  exact ⟨rfl, hb1⟩

theorem case6 (a0 : Int) (a1 : Bool) (a2 : Int) (w : World) (h0 : 0 ≤ a0) (h : a0 % 9 = 6) :
    Calls Try.prog 6 #[.int .u8 a0, .bool a1, .int .i32 a2] w fun e w' => e = .returned (.bool true) ∧ Below w.heap.size w w' := by
  have hmm := @run_makeMap Try.prog
  go_enter Try.func6, Try.ntmps6
  go_wp2_with (first | (go_at_call 33; go_in))
  refine (markNone _ _ 0 _ _ _ _ _ ?_ (by decide) (by decide) (by decide) (by decide) (by decide) ?_).mono ?_
  · exact (Below.block (B := w.heap.size + 1) (w := w.alloc (.map #[] 0)) (by go_grown) _ (by omega)).trans (heap_alloc_new _ _)
  · go_size
  rintro e w1 ⟨rfl, h1⟩
  have hM2 := len_empty w.heap.size 0 w1 ((h1.block _ (by go_size)).trans ((Below.block (B := w.heap.size + 1) (w := w.alloc (.map #[] 0)) (by go_grown) _ (by omega)).trans (heap_alloc_new _ _)))
  have c1i0 : w1.cell? ⟨w.heap.size + 1 + 1, 4, none⟩ = some (.bool false) := by rw [h1.cell (p := ⟨w.heap.size + 1 + 1, 4, none⟩) (by go_size)]; go_simp
  have hb1 : Below w.heap.size w w1 := by
    refine Below.trans ?_ (h1.mono (by go_size))
    go_grown
  clear h1
  go_wp2
  go_ret
  exact ⟨rfl, hb1⟩

theorem case7 (a0 : Int) (a1 : Bool) (a2 : Int) (w : World) (h0 : 0 ≤ a0) (h : a0 % 9 = 7) :
    Calls Try.prog 6 #[.int .u8 a0, .bool a1, .int .i32 a2] w fun e w' => e = .returned (.bool true) ∧ Below w.heap.size w w' := by
  have hmm := @run_makeMap Try.prog
  go_enter Try.func6, Try.ntmps6
  go_wp2_with (first | (go_at_call 33; go_in))
  refine (markNone _ _ 0 _ _ _ _ _ ?_ (by decide) (by decide) (by decide) (by decide) (by decide) ?_).mono ?_
  · exact (Below.block (B := w.heap.size + 1) (w := w.alloc (.map #[] 0)) (by go_grown) _ (by omega)).trans (heap_alloc_new _ _)
  · go_size
  rintro e w1 ⟨rfl, h1⟩
  have hM2 := len_empty w.heap.size 0 w1 ((h1.block _ (by go_size)).trans ((Below.block (B := w.heap.size + 1) (w := w.alloc (.map #[] 0)) (by go_grown) _ (by omega)).trans (heap_alloc_new _ _)))
  have c1i0 : w1.cell? ⟨w.heap.size + 1 + 1 + 1 + 1 + 1 + 1, 5, none⟩ = some (.bool false) := by rw [h1.cell (p := ⟨w.heap.size + 1 + 1 + 1 + 1 + 1 + 1, 5, none⟩) (by go_size)]; go_simp
  have hb1 : Below w.heap.size w w1 := by
    refine Below.trans ?_ (h1.mono (by go_size))
    go_grown
  clear h1
  go_wp2
  go_ret
  exact ⟨rfl, hb1⟩

theorem case8 (a0 : Int) (a1 : Bool) (a2 : Int) (w : World) (h0 : 0 ≤ a0) (h : a0 % 9 = 8) :
    Calls Try.prog 6 #[.int .u8 a0, .bool a1, .int .i32 a2] w fun e w' => e = .returned (.bool true) ∧ Below w.heap.size w w' := by
  have hmm := @run_makeMap Try.prog
  go_enter Try.func6, Try.ntmps6
  go_wp2_with (first | (go_at_call 33; go_in))
  refine (mark61 _ 0 _ _ _ _ _ ?_ (.bool false) ?_ ?_ ?_ ?_).mono ?_
  · exact (Below.block (B := w.heap.size + 1) (w := w.alloc (.map #[] 0)) (by go_grown) _ (by omega)).trans (heap_alloc_new _ _)
  · go_simp
  · go_simp
  · go_size
  · go_size
  rintro e w1 ⟨rfl, h1⟩
  have hM1 : w1.heap[w.heap.size]? = some (.map #[] 0) := (h1.block _ (by go_size)).trans ((Below.heap_setCell _ _ _ _ (by show w.heap.size ≠ w.heap.size + 1 + 1 + 1 + 1 + 1; omega)).trans ((Below.block (B := w.heap.size + 1) (w := w.alloc (.map #[] 0)) (by go_grown) _ (by omega)).trans (heap_alloc_new _ _)))
  have HM1 := Lib.hid hM1
  clear hM1
  have z1 : w.heap.size + 1 + 1 + 1 + 1 + 1 + 1 + 1 ≤ w1.heap.size := by
    have := h1.size
    simp only [World.size_setCell, World.size_alloc] at this
    omega
  have c1t : w1.cell? ⟨w.heap.size + 1 + 1 + 1 + 1 + 1, 5, none⟩ = some (.bool true) := by rw [h1.cell (p := ⟨w.heap.size + 1 + 1 + 1 + 1 + 1, 5, none⟩) (by go_size)]; go_simp
  have c1i0 : w1.cell? ⟨w.heap.size + 1 + 1, 4, none⟩ = some (.bool false) := by rw [h1.cell (p := ⟨w.heap.size + 1 + 1, 4, none⟩) (by go_size)]; go_simp
  have f1t : w1.frozen? ⟨w.heap.size + 1 + 1 + 1 + 1 + 1, 5, none⟩ = false := by rw [h1.frozen (p := ⟨w.heap.size + 1 + 1 + 1 + 1 + 1, 5, none⟩) (by go_size)]; go_simp
  have c1at : w1.cell? ⟨w.heap.size + 1, 0, none⟩ = some (.int .i32 a2) := by rw [h1.cell (p := ⟨w.heap.size + 1, 0, none⟩) (by go_size)]; go_simp
  have c1v0 : w1.cell? ⟨w.heap.size + 1 + 1 + 1 + 1 + 1 + 1, 0, none⟩ = some (.iface 61 (.pointer (some ⟨w.heap.size + 1 + 1 + 1 + 1 + 1, 0, none⟩))) := by rw [h1.cell (p := ⟨w.heap.size + 1 + 1 + 1 + 1 + 1 + 1, 0, none⟩) (by go_size)]; go_simp
  have c1v1 : w1.cell? ⟨w.heap.size + 1 + 1 + 1 + 1 + 1 + 1, 1, none⟩ = some (.int .i32 0) := by rw [h1.cell (p := ⟨w.heap.size + 1 + 1 + 1 + 1 + 1 + 1, 1, none⟩) (by go_size)]; go_simp
  have hb1 : Below w.heap.size w w1 := by
    refine Below.trans ?_ (h1.mono (by go_size))
    go_grown
  clear h1
  go_wp2_with fail
  refine (mark61 _ 0 _ _ _ _ _ HM1.out (.bool true) c1t f1t (by omega) (by omega)).mono ?_
  rintro e w2 ⟨rfl, h2⟩
  have hM2 := len_empty w.heap.size 0 w2 ((h2.block _ (by omega)).trans ((Below.heap_setCell _ _ _ _ (by show w.heap.size ≠ w.heap.size + 1 + 1 + 1 + 1 + 1; omega)).trans HM1.out))
  have c2t : w2.cell? ⟨w.heap.size + 1 + 1 + 1 + 1 + 1, 5, none⟩ = some (.bool true) := by rw [h2.cell (p := ⟨w.heap.size + 1 + 1 + 1 + 1 + 1, 5, none⟩) (by show w.heap.size + 1 + 1 + 1 + 1 + 1 < _; omega)]; go_simp
  have c2i0 : w2.cell? ⟨w.heap.size + 1 + 1, 4, none⟩ = some (.bool false) := by rw [h2.cell (p := ⟨w.heap.size + 1 + 1, 4, none⟩) (by show w.heap.size + 1 + 1 < _; omega)]; go_simp
  have hb2 : Below w.heap.size w w2 := by
    refine hb1.trans (Below.trans (Below.setCell (Below.refl _ _) (p := ⟨w.heap.size + 1 + 1 + 1 + 1 + 1, 5, none⟩) (by show w.heap.size ≤ w.heap.size + 1 + 1 + 1 + 1 + 1; omega) (.bool true)) (h2.mono (by omega)))
  clear h2 HM1 hb1
  go_wp2
  go_ret
  exact ⟨rfl, hb2⟩

theorem walk (a0 : Int) (a1 : Bool) (a2 : Int) (w : World) (w0 : (Lit.int .u8 a0).wf = true) (w2 : (Lit.int .i32 a2).wf = true) :
    Calls Try.prog 6 #[.int .u8 a0, .bool a1, .int .i32 a2] w fun e w' => e = .returned (.bool true) ∧ Below w.heap.size w w' := by
  have b := bounds_u8 w0
  have h0 : 0 ≤ a0 := b.1
  have hc : a0 % 9 = 0 ∨ a0 % 9 = 1 ∨ a0 % 9 = 2 ∨ a0 % 9 = 3 ∨ a0 % 9 = 4 ∨ a0 % 9 = 5 ∨ a0 % 9 = 6 ∨ a0 % 9 = 7 ∨ a0 % 9 = 8 := by omega
  rcases hc with h | h | h | h | h | h | h | h | h
  · exact case0 a0 a1 a2 w h0 h
  · exact case1 a0 a1 a2 w h0 h
  · exact case2 a0 a1 a2 w h0 h
  · exact case3 a0 a1 a2 w h0 h
  · exact case4 a0 a1 a2 w h0 h
  · exact case5 a0 a1 a2 w h0 h
  · exact case6 a0 a1 a2 w h0 h
  · exact case7 a0 a1 a2 w h0 h
  · exact case8 a0 a1 a2 w h0 h

end Go.Proofs.Ytgefhkjidldjlac.fnMarkExprAsParenthesizedFlagIsShallow
