import Derived.Test.YtpbajadomgdajaaDoorKit
import Derived.Test.YtpbajadomgdajaaDoorGnF
namespace Go.Proofs.YtpbajadomgdajaaDoor
open Go.ChangeShapes Go.WideShapes Go.ChangeAt Go.RowKit
set_option linter.unusedVariables false
set_option maxRecDepth 100000
set_option maxHeartbeats 2000000

/-- A byte of s. -/
def cb (s : ByteArray) (i : Nat) : Nat := (s.get! i).toNat
theorem cb_lt (s : ByteArray) (i : Nat) : cb s i < 256 := UInt8.toNat_lt _
theorem cb_at (s : ByteArray) (i : Nat) (h : i < s.size) : ∀ W : World, (Instr.index 9 (.string s) (.int .i64 (i : Int))).run Tryd.prog W = .ok (.int .u8 (cb s i : Int)) W := by
  have hg : s.get! i = s[i]'h := by
    have := get_at s i h
    simpa using this
  unfold cb
  rw [hg]
  exact index_at s i h
theorem cb_fold (s : ByteArray) (i : Nat) (h : i < s.size) : gfold (s.data.toList.take (i + 1)) = gstep (gfold (s.data.toList.take i)) (cb s i) := by
  have hi' : i < s.data.toList.length := by rw [← Lib.size_eq]; exact h
  have hg : s.get! i = s[i]'h := by
    have := get_at s i h
    simpa using this
  have hb : s.data.toList[i]'hi' = s[i]'h := by simp [ByteArray.getElem_eq_getElem_data]
  rw [gfold_take _ _ hi', hb, cb, hg]
/-- A letter or a digit. -/
def alb (c : Nat) : Bool := isL c || isD c
theorem alb_false {c : Nat} (h : alb c = false) : isL c = false ∧ isD c = false := by
  simpa [alb] using h
/-- Over what is no letter and no digit. -/
theorem skip (s : ByteArray) (i : Nat) (out : List UInt8) (hg : gfold (s.data.toList.take i) = (out, false)) (hne : out ≠ []) : ∀ m, 0 < m → i + m ≤ s.size → (∀ j, i ≤ j → j < i + m → alb (cb s j) = false) → gfold (s.data.toList.take (i + m)) = (out, true)
  | 0, h, _, _ => by omega
  | 1, _, hm, hn => by
    obtain ⟨h1, h2⟩ := alb_false (hn i (Nat.le_refl _) (by omega))
    rw [cb_fold s i (by omega), hg, gstep_other _ _ h1 h2]
    cases out with
    | nil => exact absurd rfl hne
    | cons _ _ => rfl
  | m + 2, _, hm, hn => by
    obtain ⟨h1, h2⟩ := alb_false (hn (i + (m + 1)) (by omega) (by omega))
    rw [show i + (m + 2) = (i + (m + 1)) + 1 by omega, cb_fold s (i + (m + 1)) (by omega), skip s i out hg hne (m + 1) (by omega) (by omega) (fun j h1 h2 => hn j h1 (by omega)), gstep_other _ _ h1 h2]
    cases out with
    | nil => exact absurd rfl hne
    | cons _ _ => rfl
/-- At the outer loop's head. -/
structure Inv (s : ByteArray) (i : Nat) (out : List UInt8) : Prop where
  fold : gfold (s.data.toList.take i) = (out, false)
  first : out = [] → i < s.size ∧ isL (cb s i) = true
  later : out ≠ [] → i < s.size → alb (cb s i) = false
theorem Inv.start (s : ByteArray) (p : Nat) (hp : p < s.size) (hl : isL (cb s p) = true) (hn : ∀ j, j < p → isL (cb s j) = false) : Inv s p [] := by
  refine ⟨gfold_none s.data.toList p (by rw [← Lib.size_eq]; omega) (fun j hj hjp => ?_), fun _ => ⟨hp, hl⟩, fun h => absurd rfl h⟩
  have hjs : j < s.size := by omega
  have := hn j hjp
  unfold cb at this
  have e1 : s.get! j = s[j]'hjs := by
    have := get_at s j hjs
    simpa using this
  have e2 : s.data.toList[j]'hj = s[j]'hjs := by simp [ByteArray.getElem_eq_getElem_data]
  rw [e2, ← e1]; exact this
theorem Inv.done {s : ByteArray} {out : List UInt8} (h : Inv s s.size out) : gname s.data.toList = out ∧ out ≠ [] := by
  have hne : out ≠ [] := fun e => by have := (h.first e).1; omega
  have := h.fold
  rw [List.take_of_length_le (by rw [← Lib.size_eq]; omega)] at this
  refine ⟨?_, hne⟩
  unfold gname
  rw [this]
  cases out with
  | nil => exact absurd rfl hne
  | cons _ _ => rfl
/-- Behind the skipping loop. -/
structure Mid (s : ByteArray) (i : Nat) (st : Gs) : Prop where
  fold : gfold (s.data.toList.take i) = st
  first : st.1 = [] → st.2 = false ∧ isL (cb s i) = true
  later : st.1 ≠ [] → st.2 = true
theorem Inv.mid {s : ByteArray} {i i' : Nat} {out : List UInt8} (h : Inv s i out) (hi : i < s.size) (h1 : i ≤ i') (h2 : i' ≤ s.size) (hn : ∀ j, i ≤ j → j < i' → alb (cb s j) = false) (ha : i' < s.size → alb (cb s i') = true) : ∃ f, Mid s i' (out, f) := by
  by_cases ho : out = []
  · obtain ⟨g1, g2⟩ := h.first ho
    have e : i' = i := by
      by_cases e : i' = i
      · exact e
      · have := hn i (Nat.le_refl _) (by omega)
        simp [alb, g2] at this
    subst e
    exact ⟨false, h.fold, fun _ => ⟨rfl, g2⟩, fun hh => absurd ho hh⟩
  · have hf := h.later ho hi
    have hlt : i < i' := by
      by_cases e : i' = i
      · subst e; have := ha hi; rw [hf] at this; exact absurd this (by decide)
      · omega
    refine ⟨true, ?_, fun hh => absurd hh ho, fun _ => rfl⟩
    have := skip s i out h.fold ho (i' - i) (by omega) (by omega) (fun j h3 h4 => hn j h3 (by omega))
    rwa [show i + (i' - i) = i' by omega] at this
theorem Mid.done {s : ByteArray} {out : List UInt8} {f : Bool} {i' : Nat} (hi : i' = s.size) {i : Nat} (h0 : Inv s i out) (hlt : i < s.size) (hn : ∀ j, i ≤ j → j < i' → alb (cb s j) = false) (h : Mid s i' (out, f)) : gname s.data.toList = out ∧ out ≠ [] := by
  have hne : out ≠ [] := fun e => by
    obtain ⟨g1, g2⟩ := h0.first e
    have := hn i (Nat.le_refl _) (by omega)
    simp [alb, g2] at this
  have := h.fold
  rw [List.take_of_length_le (by rw [← Lib.size_eq]; omega)] at this
  refine ⟨?_, hne⟩
  unfold gname
  rw [this]
  cases out with
  | nil => exact absurd rfl hne
  | cons _ _ => rfl
/-- In the copying loop. -/
structure Cp (s : ByteArray) (i k : Nat) (l : List UInt8) : Prop where
  ge : i ≤ k
  is : l = gap (gfold (s.data.toList.take k))
  first : k = i → (gfold (s.data.toList.take k)).1 = [] → isL (cb s k) = true
  later : i < k → gfold (s.data.toList.take k) = (l, false) ∧ l ≠ []
theorem Mid.cp {s : ByteArray} {i : Nat} {st : Gs} (h : Mid s i st) : Cp s i i (gap st) := by
  refine ⟨Nat.le_refl _, by rw [h.fold], fun _ hh => (h.first (by rw [← h.fold]; exact hh)).2, fun hh => by omega⟩
theorem Cp.step {s : ByteArray} {i k : Nat} {l : List UInt8} (h : Cp s i k l) (hk : k < s.size) (ha : alb (cb s k) = true) : Cp s i (k + 1) (l ++ [UInt8.ofNat (cb s k)]) := by
  have hal : isL (cb s k) = true ∨ (isD (cb s k) = true ∧ (gfold (s.data.toList.take k)).1 ≠ []) := by
    by_cases hl : isL (cb s k) = true
    · exact .inl hl
    · have hd : isD (cb s k) = true := by simpa [alb, hl] using ha
      refine .inr ⟨hd, fun e => ?_⟩
      by_cases hki : k = i
      · exact hl (h.first hki e)
      · have h2 := h.later (by have := h.ge; omega)
        rw [h2.1] at e
        exact h2.2 e
  have hf : gfold (s.data.toList.take (k + 1)) = (l ++ [UInt8.ofNat (cb s k)], false) := by
    rw [cb_fold s k hk, gstep_alnum _ _ hal, ← h.is]
  exact ⟨by have := h.ge; omega, by rw [hf]; rfl, fun e => by have := h.ge; omega, fun _ => ⟨hf, by simp⟩⟩
theorem Cp.done {s : ByteArray} {i j : Nat} {l : List UInt8} (h : Cp s i j l) (hij : i < j) (ha : j < s.size → alb (cb s j) = false) : Inv s j l :=
  ⟨(h.later hij).1, fun e => absurd e (h.later hij).2, fun _ hj => ha hj⟩
theorem Inv.len {s : ByteArray} {i : Nat} {out : List UInt8} (h : Inv s i out) (hi : i ≤ s.size) : out.length ≤ i := by
  have h1 := gfold_len s.data.toList i (by rw [← Lib.size_eq]; exact hi)
  rw [h.fold] at h1
  exact Nat.le_trans (gap_ge (out, false)) h1
theorem Cp.len {s : ByteArray} {i k : Nat} {l : List UInt8} (h : Cp s i k l) (hk : k ≤ s.size) : l.length ≤ k := by
  rw [h.is]
  exact gfold_len s.data.toList k (by rw [← Lib.size_eq]; exact hk)
/-- Where there is no letter, the name is a bar. -/
theorem gname_none (s : ByteArray) (hn : ∀ j, j < s.size → isL (cb s j) = false) : gname s.data.toList = [95] := by
  have h := gfold_none s.data.toList s.data.toList.length (Nat.le_refl _) (fun j hj _ => by
    have hjs : j < s.size := by rw [Lib.size_eq]; exact hj
    have := hn j hjs
    unfold cb at this
    have e1 : s.get! j = s[j]'hjs := by
      have := get_at s j hjs
      simpa using this
    have e2 : s.data.toList[j]'hj = s[j]'hjs := by simp [ByteArray.getElem_eq_getElem_data]
    rw [e2, ← e1]; exact this)
  rw [List.take_length] at h
  unfold gname
  rw [h]
  rfl

end Go.Proofs.YtpbajadomgdajaaDoor
