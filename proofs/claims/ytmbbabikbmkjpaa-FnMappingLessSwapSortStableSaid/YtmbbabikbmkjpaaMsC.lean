import Derived.Test.YtmbbabikbmkjpaaKit
import Derived.Test.YtmbbabikbmkjpaaMsP
namespace Go.Proofs.Ytmbbabikbmkjpaa.fnMappingLessSwapSortStable
open Go.ChangeShapes Go.WideShapes Go.ChangeAt Go.RowKit
set_option linter.unusedVariables false
set_option maxRecDepth 100000
set_option maxHeartbeats 2000000

/-- Mapping t, cell by cell. -/
def mc (L C : Nat → Int) (t b : Nat) : Value := if b = 0 then .int .i32 (L t) else if b = 1 then .int .i32 (C t) else if b = 2 then .int .i32 (t : Int) else if b = 3 then .int .i32 ((t : Int) + 1) else if b = 4 then .int .i32 (-(t : Int)) else .int .u32 (fb t)
def key (L C : Nat → Int) (t : Nat) : Int := L t * 4294967296 + (C t + 2147483648)
def i32b (x : Int) : Prop := -2147483648 ≤ x ∧ x ≤ 2147483647
theorem less_key {L C : Nat → Int} {s t : Nat} (h1 : i32b (C s)) (h2 : i32b (C t)) : lessB (L s) (C s) (L t) (C t) = decide (key L C s ≤ key L C t) := by
  obtain ⟨a, b⟩ := h1
  obtain ⟨c, d⟩ := h2
  unfold lessB key
  rw [Bool.eq_iff_iff]
  simp
  omega

theorem lessM (L C : Nat → Int) (R n c i j : Nat) (σ : Nat → Nat) (w : World) (H : Rec w R 45 6 n (fun p b => mc L C (σ p) b)) (hi : i < n) (hj : j < n) (hn : n ≤ 4096) :
    Calls Try.prog 15 #[.slice (some ⟨R, 0, none⟩) n c, .int .i64 i, .int .i64 j] w (LessPost (lessB (L (σ i)) (C (σ i)) (L (σ j)) (C (σ j))) w) :=
  less15 R n c i j _ w (less25 R n c i j _ _ _ _ _ _ _ _ _ _ _ _ w hi hj hn (H.cell0 hi (by omega)) (H.cell hi (j := 1) (by omega)) (H.cell hi (j := 2) (by omega)) (H.cell hi (j := 3) (by omega)) (H.cell hi (j := 4) (by omega)) (H.cell hi (j := 5) (by omega))
    (H.cell0 hj (by omega)) (H.cell hj (j := 1) (by omega)) (H.cell hj (j := 2) (by omega)) (H.cell hj (j := 3) (by omega)) (H.cell hj (j := 4) (by omega)) (H.cell hj (j := 5) (by omega)))

def SwapPost (L C : Nat → Int) (R n i j : Nat) (σ : Nat → Nat) (w : World) (e : Ending) (w' : World) : Prop := e = .returned (.tuple #[]) ∧ Rec w' R 45 6 n (fun p b => mc L C (swp σ i j p) b) ∧ ∀ B w0, Below B w0 w → B ≤ R → Below B w0 w'
theorem swapM (L C : Nat → Int) (R n c i j : Nat) (σ : Nat → Nat) (w : World) (H : Rec w R 45 6 n (fun p b => mc L C (σ p) b)) (hij : i < j) (hj : j < n) (hn : n ≤ 4096) :
    Calls Try.prog 16 #[.slice (some ⟨R, 0, none⟩) n c, .int .i64 i, .int .i64 j] w (SwapPost L C R n i j σ w) := by
  have hi : i < n := by omega
  refine (swap16 R n c i j (Swapped R i j (L (σ i)) (C (σ i)) (σ i) (σ i + 1) (-(σ i)) (fb (σ i)) (L (σ j)) (C (σ j)) (σ j) (σ j + 1) (-(σ j)) (fb (σ j))) w (fun e w' h => h.1) (swap26 R n c i j _ _ _ _ _ _ _ _ _ _ _ _ w hij hj hn (H.cell0 hi (by omega)) (H.cell hi (j := 1) (by omega)) (H.cell hi (j := 2) (by omega)) (H.cell hi (j := 3) (by omega)) (H.cell hi (j := 4) (by omega)) (H.cell hi (j := 5) (by omega))
    (H.cell0 hj (by omega)) (H.cell hj (j := 1) (by omega)) (H.cell hj (j := 2) (by omega)) (H.cell hj (j := 3) (by omega)) (H.cell hj (j := 4) (by omega)) (H.cell hj (j := 5) (by omega)) H.frozen)).mono ?_
  rintro e w' ⟨rfl, rfl⟩
  refine ⟨rfl, ?_, fun B w0 hb hR => by go_grown⟩
  refine Rec.congr (((H.set6 hi _ _ _ _ _ _).set6 hj _ _ _ _ _ _).drewN 1) fun a ha b hb => ?_
  unfold updS2 swp
  have hb' : b = 0 ∨ b = 1 ∨ b = 2 ∨ b = 3 ∨ b = 4 ∨ b = 5 := by omega
  by_cases e1 : a = j
  · subst e1
    rw [if_pos rfl, if_neg (by omega), if_pos rfl]
    rcases hb' with rfl | rfl | rfl | rfl | rfl | rfl <;> rfl
  · rw [if_neg e1]
    by_cases e2 : a = i
    · rw [if_pos e2, if_pos e2]
      rcases hb' with rfl | rfl | rfl | rfl | rfl | rfl <;> rfl
    · rw [if_neg e2, if_neg e2, if_neg e1]

end Go.Proofs.Ytmbbabikbmkjpaa.fnMappingLessSwapSortStable
