import Derived.Test.YtailfkedgdlldacKit
namespace Go.Proofs.Ytailfkedgdlldac
open Go.ChangeShapes Go.WideShapes Go.ChangeAt Go.RowKit
set_option linter.unusedVariables false
set_option maxRecDepth 100000
set_option maxHeartbeats 2000000

open Classical

/-- From i down to j every mode is zero (par gives the parents). -/
inductive ZP (par : Nat → Nat) (M : Nat → Int) (i : Nat) : Nat → Prop
  | base : M i = 0 → ZP par M i i
  | step {j : Nat} : i < j → ZP par M i (par j) → M j = 0 → ZP par M i j

/-- i is j or above it. -/
inductive Anc (par : Nat → Nat) (i : Nat) : Nat → Prop
  | base : Anc par i i
  | step {j : Nat} : i < j → Anc par i (par j) → Anc par i j

variable {par : Nat → Nat} {M M' : Nat → Int} {i j c c' : Nat}

theorem Anc.le (h : Anc par i j) : i ≤ j := by
  cases h with
  | base => exact Nat.le_refl _
  | step h _ => omega
theorem ZP.anc (h : ZP par M i j) : Anc par i j := by
  induction h with
  | base _ => exact .base
  | step h _ _ ih => exact .step h ih
theorem ZP.top (h : ZP par M i j) : M i = 0 := by
  induction h with
  | base h => exact h
  | step _ _ _ ih => exact ih

/-- The ways down from two children of one node part. -/
theorem anc_apart (hc : par c = par c') (h1 : par c < c) (h2 : par c' < c') (hne : c ≠ c') : ∀ {x : Nat}, Anc par c x → Anc par c' x → False := by
  intro x h
  induction h with
  | base =>
    intro h'
    cases h' with
    | base => exact hne rfl
    | step _ h' =>
      have := h'.le
      rw [hc] at this
      omega
  | step hlt h ih =>
    rename_i j
    intro h'
    cases h' with
    | base =>
      have := h.le
      rw [← hc] at this
      omega
    | step _ h' => exact ih h'

/-- A way of zeros looks at no more than the ways below it. -/
theorem ZP.congr (h : ZP par M c j) (e : ∀ x, Anc par c x → M' x = M x) : ZP par M' c j := by
  induction h with
  | base h => exact .base (by rw [e c .base]; exact h)
  | step hlt hz h0 ih => exact .step hlt ih (by rw [e _ (.step hlt hz.anc)]; exact h0)

/-- Below i: a child first. -/
theorem ZP.child (h : ZP par M i j) (hj : j ≠ i) (hp : ∀ x, i < x → x ≤ j → par x < x) : ∃ c, par c = i ∧ i < c ∧ c ≤ j ∧ ZP par M c j := by
  induction h with
  | base _ => exact absurd rfl hj
  | step hlt hz h0 ih =>
    rename_i j
    have hpj := hp j hlt (Nat.le_refl _)
    by_cases e : par j = i
    · exact ⟨j, e, hlt, Nat.le_refl _, .base h0⟩
    · obtain ⟨c, h1, h2, h3, h4⟩ := ih e (fun x a b => hp x a (by omega))
      exact ⟨c, h1, h2, by omega, .step (by omega) h4 h0⟩
theorem ZP.up (h : ZP par M c j) (hc : par c = i) (hic : i < c) (hi : M i = 0) (hp : ∀ x, i < x → x ≤ j → par x < x) : ZP par M i j := by
  induction h with
  | base h => exact .step hic (by rw [hc]; exact .base hi) h
  | step hlt hz h0 ih =>
    rename_i j
    exact .step (by omega) (ih fun x h1 h2 => hp x h1 (by have := hp j (by omega) (Nat.le_refl _); omega)) h0

/-- What setting at i makes of the modes: the whole of it. -/
noncomputable def setAt (par : Nat → Nat) (kind : Int) (i : Nat) (M : Nat → Int) : Nat → Int := fun j => if ZP par M i j then kind else M j

/-- Behind i itself and the children of L. -/
noncomputable def setSome (par : Nat → Nat) (kind : Int) (i : Nat) (L : List Nat) (M : Nat → Int) : Nat → Int := fun j => if j = i ∨ ∃ c ∈ L, ZP par M c j then kind else M j

theorem setSome_nil (kind : Int) : setSome par kind i [] M = fun j => if j = i then kind else M j := by
  funext j
  unfold setSome
  simp

theorem setSome_snoc (kind : Int) (L : List Nat) (hL : ∀ c ∈ L, par c = i ∧ i < c ∧ c ≠ c') (hc : par c' = i) (hic : i < c') : setAt par kind c' (setSome par kind i L M) = setSome par kind i (L ++ [c']) M := by
  have he : ∀ x, Anc par c' x → setSome par kind i L M x = M x := by
    intro x hx
    unfold setSome
    rw [if_neg]
    rintro (rfl | ⟨c, hc1, hz⟩)
    · have := hx.le; omega
    · obtain ⟨p1, p2, p3⟩ := hL c hc1
      exact anc_apart (by rw [p1, hc]) (by rw [p1]; exact p2) (by rw [hc]; exact hic) p3 hz.anc hx
  have hz : ∀ j, ZP par (setSome par kind i L M) c' j ↔ ZP par M c' j := fun j =>
    ⟨fun h => h.congr fun x hx => (he x hx).symm, fun h => h.congr he⟩
  funext j
  unfold setAt
  by_cases h : ZP par M c' j
  · rw [if_pos ((hz j).2 h)]
    unfold setSome
    rw [if_pos (.inr ⟨c', by simp, h⟩)]
  · rw [if_neg (fun h' => h ((hz j).1 h'))]
    unfold setSome
    by_cases h2 : j = i ∨ ∃ c ∈ L, ZP par M c j
    · rw [if_pos h2, if_pos]
      rcases h2 with h2 | ⟨c, h3, h4⟩
      · exact .inl h2
      · exact .inr ⟨c, by simp [h3], h4⟩
    · rw [if_neg h2, if_neg]
      rintro (h3 | ⟨c, h3, h4⟩)
      · exact h2 (.inl h3)
      · simp at h3
        rcases h3 with h3 | h3
        · exact h2 (.inr ⟨c, h3, h4⟩)
        · subst h3; exact h h4

theorem setSome_all (kind : Int) (L : List Nat) (N : Nat) (hi : M i = 0) (hL : ∀ c, c ∈ L ↔ (par c = i ∧ i < c ∧ c < N)) (hp : ∀ x, i < x → x < N → par x < x) {j : Nat} (hj : j < N) : setSome par kind i L M j = setAt par kind i M j := by
  unfold setSome setAt
  by_cases h : ZP par M i j
  · rw [if_pos h, if_pos]
    by_cases e : j = i
    · exact .inl e
    · obtain ⟨c, h1, h2, h3, h4⟩ := h.child e (fun x a b => hp x a (by omega))
      exact .inr ⟨c, (hL c).2 ⟨h1, h2, by omega⟩, h4⟩
  · rw [if_neg h, if_neg]
    rintro (rfl | ⟨c, h1, h2⟩)
    · exact h (.base hi)
    · obtain ⟨p1, p2, p3⟩ := (hL c).1 h1
      exact h (h2.up p1 p2 hi fun x q1 q2 => hp x q1 (by omega))
theorem setAt_no (kind : Int) (hi : M i ≠ 0) : setAt par kind i M = M := by
  funext j
  unfold setAt
  rw [if_neg fun h => hi h.top]

end Go.Proofs.Ytailfkedgdlldac
