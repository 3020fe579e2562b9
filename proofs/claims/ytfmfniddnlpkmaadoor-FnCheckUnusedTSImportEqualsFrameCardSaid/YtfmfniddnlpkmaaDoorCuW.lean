import Derived.Test.YtfmfniddnlpkmaaDoorKit
import Derived.Test.YtfmfniddnlpkmaaDoorCuX0
import Derived.Test.YtfmfniddnlpkmaaDoorCuX1
import Derived.Test.YtfmfniddnlpkmaaDoorCuX2
import Derived.IntWalk
namespace Go.Proofs.YtfmfniddnlpkmaaDoor.fnCheckUnusedTSImportEqualsFrame
open Go.ChangeShapes Go.WideShapes Go.ChangeAt Go.RowKit
set_option linter.unusedVariables false
set_option maxRecDepth 100000
set_option maxHeartbeats 4000000

theorem bounds_u32 {n : Int} (h : (Lit.int .u32 n).wf = true) : 0 ≤ n ∧ n ≤ 4294967295 := by
  simp only [Lit.wf, Bool.and_eq_true, decide_eq_true_eq] at h
  exact ⟨h.1, h.2⟩
theorem bounds_u8 {n : Int} (h : (Lit.int .u8 n).wf = true) : 0 ≤ n ∧ n ≤ 255 := by
  simp only [Lit.wf, Bool.and_eq_true, decide_eq_true_eq] at h
  exact ⟨h.1, h.2⟩

theorem walk (a0 : Option Addr) (len0 cap0 : Nat) (z0 : List Int) (a1 : Int) (a2 : Bool) (a3 a4 a5 : Int) (w : World) (w0 : IsRow .u32 w a0 len0 cap0 z0) (w1 : (Lit.int .u8 a1).wf = true) (w3 : (Lit.int .u32 a3).wf = true) (w4 : (Lit.int .u32 a4).wf = true) (w5 : (Lit.int .u8 a5).wf = true) (hI : IR w) :
    Calls Tryd.prog 4 #[.slice a0 len0 cap0, .int .u8 a1, .bool a2, .int .u32 a3, .int .u32 a4, .int .u8 a5] w fun e w' => e = .returned (.bool true) ∧ Below w.heap.size w w' := by
  obtain ⟨p1, q1⟩ := bounds_u8 w1
  obtain ⟨p3, q3⟩ := bounds_u32 w3
  obtain ⟨p4, q4⟩ := bounds_u32 w4
  obtain ⟨p5, q5⟩ := bounds_u8 w5
  rcases w0 with ⟨rfl, rfl, rfl, rfl⟩ | ⟨x, rfl, h1, h2, h3, h4, h5⟩
  · exact early none 0 0 a1 a5 a2 a3 a4 w (by omega) (.inr rfl)
  · by_cases hl : 65536 < len0 ∨ len0 = 0
    · exact early _ len0 cap0 a1 a5 a2 a3 a4 w (by unfold maxLen at h2; omega) hl
    · have hcell : ∀ i, i < len0 → w.cell? (x.add i) = some (.int .u32 (z0.getD i 0)) := fun i hi => h4 i (by omega)
      have hz : ∀ i, i < len0 → 0 ≤ z0.getD i 0 ∧ z0.getD i 0 ≤ 4294967295 := fun i hi =>
        bounds_u32 (h5 (z0.getD i 0) (by rw [List.getD_eq_getElem?_getD, List.getElem?_eq_getElem (by omega)]; simp))
      have m1 := Int.emod_nonneg a3 (show (len0 : Int) ≠ 0 by omega)
      have m2 := Int.emod_lt_of_pos a3 (show (0 : Int) < (len0 : Int) by omega)
      have m3 := Int.emod_nonneg a4 (show (len0 : Int) ≠ 0 by omega)
      have m4 := Int.emod_lt_of_pos a4 (show (0 : Int) < (len0 : Int) by omega)
      obtain ⟨b, hb⟩ : ∃ b : Nat, a3 % (len0 : Int) = b := ⟨(a3 % (len0 : Int)).toNat, by omega⟩
      obtain ⟨v, hv⟩ : ∃ v : Nat, a4 % (len0 : Int) = v := ⟨(a4 % (len0 : Int)).toNat, by omega⟩
      obtain ⟨dep, hd⟩ : ∃ dep : Nat, a5 % 4 = dep := ⟨(a5 % 4).toNat, by omega⟩
      have ht : a1 % 3 = 0 ∨ a1 % 3 = 1 ∨ a1 % 3 = 2 := by omega
      rcases ht with ht | ht | ht
      · exact main0 x len0 cap0 z0 a1 a5 a2 _ a3 a4 b v dep w (by omega) (by omega) hcell hz hI hb hv (by omega) (by omega) ht rfl hd (by omega) p3 q3 p4 q4 p1 q1 p5 q5
      · exact main1 x len0 cap0 z0 a1 a5 a2 _ a3 a4 b v dep w (by omega) (by omega) hcell hz hI hb hv (by omega) (by omega) ht rfl hd (by omega) p3 q3 p4 q4 p1 q1 p5 q5
      · exact main2 x len0 cap0 z0 a1 a5 a2 _ a3 a4 b v dep w (by omega) (by omega) hcell hz hI hb hv (by omega) (by omega) ht rfl hd (by omega) p3 q3 p4 q4 p1 q1 p5 q5

end Go.Proofs.YtfmfniddnlpkmaaDoor.fnCheckUnusedTSImportEqualsFrame
