import Derived.Test.YtmbbabikbmkjpaaKit
import Derived.Test.YtmbbabikbmkjpaaMsB
namespace Go.Proofs.Ytmbbabikbmkjpaa.fnMappingLessSwapSortStable
open Go.ChangeShapes Go.WideShapes Go.ChangeAt Go.RowKit
set_option linter.unusedVariables false
set_option maxRecDepth 100000
set_option maxHeartbeats 2000000

/-- Mapping s stands ahead of mapping t: by the key, then by the number. -/
def Lt (key : Nat → Int) (s t : Nat) : Prop := key s < key t ∨ (key s = key t ∧ s < t)

/-- The first k have been sorted. -/
structure Outer (key : Nat → Int) (n k : Nat) (σ : Nat → Nat) : Prop where
  inj : ∀ p q, p < n → q < n → σ p = σ q → p = q
  rng : ∀ p, p < n → σ p < n
  old : ∀ p, p < k → σ p < k
  fix : ∀ p, k ≤ p → p < n → σ p = p
  srt : ∀ p q, p < q → q < k → Lt key (σ p) (σ q)

/-- Element k is on its way down and stands at j. -/
structure Inner (key : Nat → Int) (n k j : Nat) (σ : Nat → Nat) : Prop where
  inj : ∀ p q, p < n → q < n → σ p = σ q → p = q
  rng : ∀ p, p < n → σ p < n
  fix : ∀ p, k < p → p < n → σ p = p
  at_ : σ j = k
  old : ∀ p, p ≤ k → p ≠ j → σ p < k
  srt : ∀ p q, p < q → q ≤ k → p ≠ j → q ≠ j → Lt key (σ p) (σ q)
  gt : ∀ q, j < q → q ≤ k → key k < key (σ q)

def swp (σ : Nat → Nat) (a b : Nat) : Nat → Nat := fun p => if p = a then σ b else if p = b then σ a else σ p

section
variable {key : Nat → Int} {n k j : Nat} {σ : Nat → Nat}
theorem Outer.first (hn : 1 ≤ n) : Outer key n 1 (fun p => p) :=
  ⟨fun p q _ _ h => h, fun p h => h, fun p h => h, fun p _ _ => rfl, fun p q h1 h2 => by omega⟩
theorem Outer.zero : Outer key 0 0 (fun p => p) :=
  ⟨fun p q _ _ h => h, fun p h => h, fun p h => h, fun p _ _ => rfl, fun p q h1 h2 => by omega⟩
theorem Outer.enter (h : Outer key n k σ) (hk : k < n) : Inner key n k k σ :=
  ⟨h.inj, h.rng, fun p h1 h2 => h.fix p (by omega) h2, h.fix k (Nat.le_refl _) hk, fun p h1 h2 => h.old p (by omega), fun p q h1 h2 h3 h4 => h.srt p q h1 (by omega), fun q h1 h2 => by omega⟩
theorem Inner.swap (h : Inner key n k (j + 1) σ) (hk : k < n) (hj : j + 1 ≤ k) (hgt : ¬ key (σ j) ≤ key (σ (j + 1))) : Inner key n k j (swp σ j (j + 1)) := by
  have hat := h.at_
  have hval : ∀ p, swp σ j (j + 1) p = if p = j then σ (j + 1) else if p = j + 1 then σ j else σ p := fun p => rfl
  refine ⟨fun p q hp hq e => ?_, fun p hp => ?_, fun p h1 h2 => ?_, ?_, fun p h1 h2 => ?_, fun p q h1 h2 h3 h4 => ?_, fun q h1 h2 => ?_⟩
  · rw [hval, hval] at e
    by_cases a1 : p = j
    · by_cases b1 : q = j
      · omega
      · rw [if_pos a1, if_neg b1] at e
        by_cases b2 : q = j + 1
        · rw [if_pos b2] at e
          have := h.inj _ _ (by omega) (by omega) e
          omega
        · rw [if_neg b2] at e
          have := h.inj _ _ (by omega) hq e
          omega
    · rw [if_neg a1] at e
      by_cases a2 : p = j + 1
      · rw [if_pos a2] at e
        by_cases b1 : q = j
        · rw [if_pos b1] at e
          have := h.inj _ _ (by omega) (by omega) e
          omega
        · rw [if_neg b1] at e
          by_cases b2 : q = j + 1
          · omega
          · rw [if_neg b2] at e
            have := h.inj _ _ (by omega) hq e
            omega
      · rw [if_neg a2] at e
        by_cases b1 : q = j
        · rw [if_pos b1] at e
          have := h.inj _ _ hp (by omega) e
          omega
        · rw [if_neg b1] at e
          by_cases b2 : q = j + 1
          · rw [if_pos b2] at e
            have := h.inj _ _ hp (by omega) e
            omega
          · rw [if_neg b2] at e
            exact h.inj _ _ hp hq e
  · rw [hval]
    split
    · exact h.rng _ (by omega)
    · split
      · exact h.rng _ (by omega)
      · exact h.rng _ hp
  · rw [hval, if_neg (by omega), if_neg (by omega)]
    exact h.fix p h1 h2
  · rw [hval, if_pos rfl]
    exact hat
  · rw [hval, if_neg h2]
    split
    · exact h.old j (by omega) (by omega)
    · exact h.old p h1 (by assumption)
  · rw [hval, hval, if_neg h3, if_neg h4]
    by_cases a : p = j + 1
    · rw [if_pos a, if_neg (by omega)]
      exact h.srt j q (by omega) h2 (by omega) (by omega)
    · rw [if_neg a]
      by_cases b : q = j + 1
      · rw [if_pos b]
        exact h.srt p j (by omega) (by omega) a (by omega)
      · rw [if_neg b]
        exact h.srt p q h1 h2 a b
  · rw [hval, if_neg (by omega)]
    by_cases b : q = j + 1
    · rw [if_pos b]
      rw [hat] at hgt
      omega
    · rw [if_neg b]
      exact h.gt q (by omega) h2
theorem Inner.leave (h : Inner key n k j σ) (hk : k < n) (hjk : j ≤ k) (hle : ∀ j', j = j' + 1 → key (σ j') ≤ key (σ j)) : Outer key n (k + 1) σ := by
  refine ⟨h.inj, h.rng, fun p hp => ?_, fun p h1 h2 => h.fix p (by omega) h2, fun p q h1 h2 => ?_⟩
  · by_cases e : p = j
    · rw [e, h.at_]; omega
    · have := h.old p (by omega) e; omega
  · by_cases a : q = j
    · subst a
      obtain ⟨j', rfl⟩ : ∃ j', q = j' + 1 := ⟨q - 1, by omega⟩
      have h3 := hle j' rfl
      have h4 := h.old p (by omega) (by omega)
      have h5 : key (σ p) ≤ key (σ j') := by
        by_cases e : p = j'
        · rw [e]; exact Int.le_refl _
        · rcases h.srt p j' (by omega) (by omega) (by omega) (by omega) with h6 | ⟨h6, _⟩ <;> omega
      rw [h.at_] at h3 ⊢
      unfold Lt
      omega
    · by_cases b : p = j
      · subst b
        have := h.gt q (by omega) (by omega)
        rw [h.at_]
        exact .inl this
      · exact h.srt p q h1 (by omega) b a
theorem Outer.next (h : Outer key n n σ) {p : Nat} (hp : p + 1 < n) : Lt key (σ p) (σ (p + 1)) := h.srt p (p + 1) (by omega) hp
end


end Go.Proofs.Ytmbbabikbmkjpaa.fnMappingLessSwapSortStable
