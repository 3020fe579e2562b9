import Derived.Test.YtdikaidllmhbhaaKit
import Derived.Sort.KeysCollected
namespace Go.Proofs.Ytdikaidllmhbhaa.fnSortedKeysOfMapIsTheSortedKeySet
open Go.ChangeShapes Go.WideShapes Go.ChangeAt Go.RowKit
set_option linter.unusedVariables false
set_option maxRecDepth 100000
set_option maxHeartbeats 2000000

/-- The order on byte strings, and a sorted list without repeats. -/
theorem srt_lt {a b : List UInt8} (h : a ≤ b) (hn : a ≠ b) : a < b := by
  by_cases g : a < b
  · exact g
  · exact absurd (List.le_antisymm h (List.not_lt.1 g)) hn
theorem leB_tr : ∀ a b c : List UInt8, leB a b = true → leB b c = true → leB a c = true := fun a b c h1 h2 => by
  simp only [leB, decide_eq_true_eq] at *
  exact List.le_trans h1 h2
theorem leB_to : ∀ a b : List UInt8, (leB a b || leB b a) = true := fun a b => by
  simp only [leB, Bool.or_eq_true, decide_eq_true_eq]
  exact List.le_total a b
theorem srt_strict {l : List (List UInt8)} (h : l.Nodup) : (l.mergeSort leB).Pairwise (· < ·) := by
  have h1 := List.pairwise_mergeSort leB_tr leB_to l
  have h2 : (l.mergeSort leB).Nodup := (List.mergeSort_perm l leB).nodup_iff.2 h
  refine (h1.and h2).imp ?_
  rintro a b ⟨g1, g2⟩
  simp only [leB, decide_eq_true_eq] at g1
  exact srt_lt g1 g2
def Gt (G : List (List UInt8)) (i : Nat) : List UInt8 := G.getD i []
theorem Gt_some {G : List (List UInt8)} {i : Nat} (h : i < G.length) : G[i]? = some (Gt G i) := by
  unfold Gt
  rw [List.getD_eq_getElem?_getD, List.getElem?_eq_getElem h]
  rfl
theorem Gt_lt {G : List (List UInt8)} (h : G.Pairwise (· < ·)) {i j : Nat} (hij : i < j) (hj : j < G.length) : Gt G i < Gt G j := by
  have := List.pairwise_iff_getElem.1 h i j (by omega) hj hij
  have e1 := Gt_some (G := G) (i := i) (by omega)
  have e2 := Gt_some hj
  rw [List.getElem?_eq_getElem (by omega)] at e1
  rw [List.getElem?_eq_getElem hj] at e2
  injection e1 with e1
  injection e2 with e2
  rw [← e1, ← e2]
  exact this
theorem Gt_iff {G : List (List UInt8)} (h : G.Pairwise (· < ·)) {i t : Nat} (hi : i < G.length) (ht : t < G.length) : Gt G i < Gt G t ↔ i < t := by
  constructor
  · intro hlt
    by_cases e : i = t
    · subst e
      exact absurd hlt (List.lt_irrefl _)
    · by_cases e2 : i < t
      · exact e2
      · exact absurd (List.lt_trans hlt (Gt_lt h (show t < i by omega) hi)) (List.lt_irrefl _)
  · exact fun hlt => Gt_lt h hlt ht
theorem Gt_mem {G : List (List UInt8)} {x : List UInt8} (h : x ∈ G) : ∃ t, t < G.length ∧ Gt G t = x := by
  obtain ⟨t, ht, e⟩ := List.mem_iff_getElem.1 h
  refine ⟨t, ht, ?_⟩
  have := Gt_some ht
  rw [List.getElem?_eq_getElem ht] at this
  injection this with this
  exact this.symm.trans e

end Go.Proofs.Ytdikaidllmhbhaa.fnSortedKeysOfMapIsTheSortedKeySet
