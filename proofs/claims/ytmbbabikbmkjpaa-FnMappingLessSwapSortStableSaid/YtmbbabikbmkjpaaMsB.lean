import Derived.Test.YtmbbabikbmkjpaaKit
import Derived.Test.YtmbbabikbmkjpaaMsA
namespace Go.Proofs.Ytmbbabikbmkjpaa.fnMappingLessSwapSortStable
open Go.ChangeShapes Go.WideShapes Go.ChangeAt Go.RowKit
set_option linter.unusedVariables false
set_option maxRecDepth 100000
set_option maxHeartbeats 2000000

theorem less15 (R n c i j : Nat) (B : Bool) (w : World) (h : Calls Try.prog 25 #[.slice (some ⟨R, 0, none⟩) n c, .int .i64 i, .int .i64 j] w (LessPost B w)) :
    Calls Try.prog 15 #[.slice (some ⟨R, 0, none⟩) n c, .int .i64 i, .int .i64 j] w (LessPost B w) := by
  have H := Lib.hid h
  clear h
  go_enter Try.func15, Try.ntmps15
  go_wp2_with fail
  refine H.out.mono ?_
  rintro e w1 ⟨rfl, hb⟩
  go_wp2_with fail
  go_ret
  exact ⟨rfl, hb⟩

def Swapped (R i j : Nat) (a0 a1 a2 a3 a4 a5 d0 d1 d2 d3 d4 d5 : Int) (w : World) (e : Ending) (w' : World) : Prop := e = .returned (.tuple #[]) ∧ w' = (((((((((((((w.setCell ⟨R, i * 6, none⟩ (.int .i32 d0)).setCell ⟨R, i * 6 + 1, none⟩ (.int .i32 d1)).setCell ⟨R, i * 6 + 2, none⟩ (.int .i32 d2)).setCell ⟨R, i * 6 + 3, none⟩ (.int .i32 d3)).setCell ⟨R, i * 6 + 4, none⟩ (.int .i32 d4)).setCell ⟨R, i * 6 + 5, none⟩ (.int .u32 d5)).setCell ⟨R, j * 6, none⟩ (.int .i32 a0)).setCell ⟨R, j * 6 + 1, none⟩ (.int .i32 a1)).setCell ⟨R, j * 6 + 2, none⟩ (.int .i32 a2)).setCell ⟨R, j * 6 + 3, none⟩ (.int .i32 a3)).setCell ⟨R, j * 6 + 4, none⟩ (.int .i32 a4)).setCell ⟨R, j * 6 + 5, none⟩ (.int .u32 a5))).drew
theorem swap26 (R n c i j : Nat) (a0 a1 a2 a3 a4 a5 d0 d1 d2 d3 d4 d5 : Int) (w : World) (hij : i < j) (hj : j < n) (hn : n ≤ 4096)
    (i0 : w.cell? ⟨R, i * 6, none⟩ = some (.int .i32 a0)) (i1 : w.cell? ⟨R, i * 6 + 1, none⟩ = some (.int .i32 a1)) (i2 : w.cell? ⟨R, i * 6 + 2, none⟩ = some (.int .i32 a2)) (i3 : w.cell? ⟨R, i * 6 + 3, none⟩ = some (.int .i32 a3)) (i4 : w.cell? ⟨R, i * 6 + 4, none⟩ = some (.int .i32 a4)) (i5 : w.cell? ⟨R, i * 6 + 5, none⟩ = some (.int .u32 a5))
    (j0 : w.cell? ⟨R, j * 6, none⟩ = some (.int .i32 d0)) (j1 : w.cell? ⟨R, j * 6 + 1, none⟩ = some (.int .i32 d1)) (j2 : w.cell? ⟨R, j * 6 + 2, none⟩ = some (.int .i32 d2)) (j3 : w.cell? ⟨R, j * 6 + 3, none⟩ = some (.int .i32 d3)) (j4 : w.cell? ⟨R, j * 6 + 4, none⟩ = some (.int .i32 d4)) (j5 : w.cell? ⟨R, j * 6 + 5, none⟩ = some (.int .u32 d5)) (f : ∀ o, w.frozen? ⟨R, o, none⟩ = false) :
    Calls Try.prog 26 #[.slice (some ⟨R, 0, none⟩) n c, .int .i64 i, .int .i64 j] w (Swapped R i j a0 a1 a2 a3 a4 a5 d0 d1 d2 d3 d4 d5 w) := by
  have b1 : (i : Int) < (n : Int) := by omega
  have b2 : (j : Int) < (n : Int) := by omega
  have n00 : ¬ i * 6 = j * 6 := by omega
  have n01 : ¬ i * 6 = j * 6 + 1 := by omega
  have n02 : ¬ i * 6 = j * 6 + 2 := by omega
  have n03 : ¬ i * 6 = j * 6 + 3 := by omega
  have n04 : ¬ i * 6 = j * 6 + 4 := by omega
  have n05 : ¬ i * 6 = j * 6 + 5 := by omega
  have n10 : ¬ i * 6 + 1 = j * 6 := by omega
  have n11 : ¬ i * 6 + 1 = j * 6 + 1 := by omega
  have n12 : ¬ i * 6 + 1 = j * 6 + 2 := by omega
  have n13 : ¬ i * 6 + 1 = j * 6 + 3 := by omega
  have n14 : ¬ i * 6 + 1 = j * 6 + 4 := by omega
  have n15 : ¬ i * 6 + 1 = j * 6 + 5 := by omega
  have n20 : ¬ i * 6 + 2 = j * 6 := by omega
  have n21 : ¬ i * 6 + 2 = j * 6 + 1 := by omega
  have n22 : ¬ i * 6 + 2 = j * 6 + 2 := by omega
  have n23 : ¬ i * 6 + 2 = j * 6 + 3 := by omega
  have n24 : ¬ i * 6 + 2 = j * 6 + 4 := by omega
  have n25 : ¬ i * 6 + 2 = j * 6 + 5 := by omega
  have n30 : ¬ i * 6 + 3 = j * 6 := by omega
  have n31 : ¬ i * 6 + 3 = j * 6 + 1 := by omega
  have n32 : ¬ i * 6 + 3 = j * 6 + 2 := by omega
  have n33 : ¬ i * 6 + 3 = j * 6 + 3 := by omega
  have n34 : ¬ i * 6 + 3 = j * 6 + 4 := by omega
  have n35 : ¬ i * 6 + 3 = j * 6 + 5 := by omega
  have n40 : ¬ i * 6 + 4 = j * 6 := by omega
  have n41 : ¬ i * 6 + 4 = j * 6 + 1 := by omega
  have n42 : ¬ i * 6 + 4 = j * 6 + 2 := by omega
  have n43 : ¬ i * 6 + 4 = j * 6 + 3 := by omega
  have n44 : ¬ i * 6 + 4 = j * 6 + 4 := by omega
  have n45 : ¬ i * 6 + 4 = j * 6 + 5 := by omega
  have n50 : ¬ i * 6 + 5 = j * 6 := by omega
  have n51 : ¬ i * 6 + 5 = j * 6 + 1 := by omega
  have n52 : ¬ i * 6 + 5 = j * 6 + 2 := by omega
  have n53 : ¬ i * 6 + 5 = j * 6 + 3 := by omega
  have n54 : ¬ i * 6 + 5 = j * 6 + 4 := by omega
  have n55 : ¬ i * 6 + 5 = j * 6 + 5 := by omega
  go_enter Try.func26, Try.ntmps26
  go_wp2_with fail
  go_region
  go_wp2_with fail
  go_end0
  exact ⟨rfl, rfl⟩
theorem swap16 (R n c i j : Nat) (P : World → Ending → World → Prop) (w : World) (hP : ∀ e w', P w e w' → e = .returned (.tuple #[])) (h : Calls Try.prog 26 #[.slice (some ⟨R, 0, none⟩) n c, .int .i64 i, .int .i64 j] w (P w)) :
    Calls Try.prog 16 #[.slice (some ⟨R, 0, none⟩) n c, .int .i64 i, .int .i64 j] w (P w) := by
  have H := Lib.hid h
  have HP := Lib.hid hP
  clear h hP
  go_enter Try.func16, Try.ntmps16
  go_wp2_with fail
  refine H.out.mono ?_
  rintro e w1 hp
  obtain rfl := HP.out _ _ hp
  have HPP := Lib.hid hp
  clear hp
  go_wp2_with fail
  go_end0
  exact HPP.out

end Go.Proofs.Ytmbbabikbmkjpaa.fnMappingLessSwapSortStable
