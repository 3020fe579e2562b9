import Derived.Test.YtlehgpnglghlkaaKit
import Derived.Test.YtlehgpnglghlkaaUsC
namespace Go.Proofs.Ytlehgpnglghlkaa
open Go.ChangeShapes Go.WideShapes Go.ChangeAt Go.RowKit
set_option linter.unusedVariables false
set_option maxRecDepth 100000
set_option maxHeartbeats 2000000

def bump (c : Nat → Nat) (k : Nat) : Nat → Nat := fun i => if i = k then c k + 1 else c i

/-- How many of the first n are counted at all. -/
def dist (c : Nat → Nat) : Nat → Nat
  | 0 => 0
  | n + 1 => dist c n + if c n = 0 then 0 else 1

theorem dist_out (c : Nat → Nat) (k : Nat) : ∀ n, n ≤ k → dist (bump c k) n = dist c n
  | 0, _ => rfl
  | n + 1, h => by
    have : bump c k n = c n := if_neg (by omega)
    rw [dist, dist, dist_out c k n (by omega), this]
theorem dist_bump (c : Nat → Nat) (k : Nat) : ∀ n, k < n → dist (bump c k) n = dist c n + if c k = 0 then 1 else 0
  | 0, h => by omega
  | n + 1, h => by
    rw [dist, dist]
    by_cases e : k = n
    · subst e
      rw [dist_out c k k (Nat.le_refl _)]
      have : bump c k k = c k + 1 := if_pos rfl
      rw [this, if_neg (by omega)]
      by_cases h0 : c k = 0
      · rw [if_pos h0, if_pos h0]
      · rw [if_neg h0, if_neg h0]
    · rw [dist_bump c k n (by omega)]
      have : bump c k n = c n := if_neg (fun h => e h.symm)
      rw [this]
      omega
theorem dist_le (c : Nat → Nat) : ∀ n, dist c n ≤ n
  | 0 => Nat.le_refl _
  | n + 1 => by
    rw [dist]
    have := dist_le c n
    split <;> omega

theorem inc_nat (x : Nat) (h : x < 4294967295) : inc (x : Int) = ((x + 1 : Nat) : Int) := by
  unfold inc
  omega

theorem St.congr {w : World} {p S T q m n : Nat} {dead ts part : Bool} {f g f' g' : Nat → Int} {F : Value → Option Value} {cnt : Nat} (h : St w p S T q m n dead ts part f g F cnt) (hf : ∀ i, i < n → f i = f' i) (hg : ts = true → ∀ i, i < n → g i = g' i) : St w p S T q m n dead ts part f' g' F cnt := by
  obtain ⟨h1, ⟨cs, r1, r2, r3⟩, h3, h4⟩ := h
  exact ⟨h1, ⟨cs, r1, r2, fun i hi => by rw [r3 i hi, hf i hi]⟩, fun e => (h3 e).congr fun i hi => by rw [hg e i hi], h4⟩

/-- What the map holds and how many entries it has, at the counts c. -/
def MapOf (F : Value → Option Value) (cnt n : Nat) (dead : Bool) (c : Nat → Nat) : Prop :=
  (∀ i, F (refV i) = if dead || c i == 0 then none else some (.agg #[.int .u32 (c i)])) ∧ cnt = if dead then 0 else dist c n

theorem refV_inj {i k : Nat} (h : refV i = refV k) : i = k := by
  unfold refV at h
  injection h with h
  simp at h
  omega

theorem MapOf.bump {F : Value → Option Value} {cnt n k : Nat} {c : Nat → Nat} (h : MapOf F cnt n false c) (hk : k < n) :
    MapOf (putF F (refV k) (.agg #[.int .u32 ((c k + 1 : Nat) : Int)])) (if (F (refV k)).isSome then cnt else cnt + 1) n false (bump c k) := by
  obtain ⟨h1, h2⟩ := h
  constructor
  · intro i
    by_cases e : i = k
    · subst e
      rw [putF_same]
      simp [Ytlehgpnglghlkaa.bump]
    · rw [putF_other _ _ (fun h => e (refV_inj h)), h1 i]
      simp [Ytlehgpnglghlkaa.bump, e]
  · rw [h1 k]
    simp only [Bool.false_eq_true, if_false] at h2 ⊢
    rw [dist_bump c k n hk, h2]
    by_cases h0 : c k = 0
    · simp [h0]
    · simp [h0]

/-- The parser behind some recordings: symbol i was recorded c i times. -/
def Cn (w : World) (p S T q m n : Nat) (dead ts part : Bool) (c : Nat → Nat) : Prop :=
  ∃ F cnt, St w p S T q m n dead ts part (fun i => if dead then 0 else (c i : Int)) (fun i => (c i : Int)) F cnt ∧ (part = true → MapOf F cnt n dead c)

theorem Cn.later {w w' : World} {p S T q m n : Nat} {dead ts part : Bool} {c : Nat → Nat} (h : Cn w p S T q m n dead ts part c) (hk : ∀ j, j < w.heap.size → w'.heap[j]? = w.heap[j]?) : Cn w' p S T q m n dead ts part c := by
  obtain ⟨F, cnt, h1, h2⟩ := h
  exact ⟨F, cnt, h1.later hk, h2⟩

theorem record29 (p S T q m n k : Nat) (dead ts part : Bool) (c : Nat → Nat) (w : World) (hk : k < n) (hn : n ≤ 65536) (hc : c k < 4294967295) (h : Cn w p S T q m n dead ts part c) :
    Calls Try.prog 29 #[.pointer (some ⟨p, 0, none⟩), refV k] w fun e w' => e = .returned (.tuple #[]) ∧ Cn w' p S T q m n dead ts part (bump c k) ∧ Fr (XX S T m) w w' := by
  obtain ⟨F, cnt, h1, h2⟩ := h
  have hg : ∀ i, i < n → updN (fun i => (c i : Int)) k (inc (c k)) i = ((bump c k i : Nat) : Int) := fun i _ => by
    unfold updN bump
    by_cases e : i = k
    · rw [if_pos e, if_pos e, inc_nat _ hc]
    · rw [if_neg e, if_neg e]
  cases dead
  · cases part
    · cases ts
      · refine (rec_live_none_no p S T q m n k _ _ F cnt w hk hn h1).mono ?_
        rintro e w' ⟨he, hs, hf⟩
        exact ⟨he, ⟨F, cnt, hs.congr hg (fun e => by cases e), fun e => by cases e⟩, hf⟩
      · refine (rec_live_none_ts p S T q m n k _ _ F cnt w hk hn h1).mono ?_
        rintro e w' ⟨he, hs, hf⟩
        exact ⟨he, ⟨F, cnt, hs.congr hg (fun _ => hg), fun e => by cases e⟩, hf⟩
    · have hM := h2 rfl
      refine (rec_live_part p S T q m n k ts _ _ F cnt _ (c k) w hk hn h1 ?_ rfl).mono ?_
      · rw [hM.1 k]
        by_cases h0 : c k = 0
        · simp [h0]
        · simp [h0]
      rintro e w' ⟨he, hs, hf⟩
      have hM' := hM.bump hk
      rw [← inc_nat _ hc] at hM'
      refine ⟨he, ⟨_, _, hs.congr hg ?_, fun _ => hM'⟩, hf⟩
      intro e i hi
      subst e
      exact hg i hi
  · cases ts
    · refine (rec_dead_no p S T q m n k part _ _ F cnt w hk h1).mono ?_
      rintro e w' ⟨he, hs, hf⟩
      exact ⟨he, ⟨F, cnt, hs.congr (fun i _ => rfl) (fun e => by cases e), fun e => h2 e⟩, hf⟩
    · refine (rec_dead_ts p S T q m n k part _ _ F cnt w hk hn h1).mono ?_
      rintro e w' ⟨he, hs, hf⟩
      exact ⟨he, ⟨F, cnt, hs.congr (fun i _ => rfl) (fun _ => hg), fun e => h2 e⟩, hf⟩

theorem record8 (p S T q m n k : Nat) (dead ts part : Bool) (c : Nat → Nat) (w : World) (hk : k < n) (hn : n ≤ 65536) (hc : c k < 4294967295) (h : Cn w p S T q m n dead ts part c) :
    Calls Try.prog 8 #[.pointer (some ⟨p, 0, none⟩), .int .u32 k] w fun e w' => e = .returned (.tuple #[]) ∧ Cn w' p S T q m n dead ts part (bump c k) ∧ Fr (XX S T m) w w' := by
  have H := Lib.hid h
  clear h
  go_enter Try.func8, Try.ntmps8
  go_wp2_with fail
  refine (record29 p S T q m n k dead ts part c _ hk hn hc H.out).mono ?_
  rintro e w1 ⟨rfl, h1, h2⟩
  have H1 := Lib.hid h1
  have H2 := Lib.hid h2
  clear h1 h2 H
  go_wp2_with fail
  go_end0
  exact ⟨rfl, H1.out, H2.out⟩

end Go.Proofs.Ytlehgpnglghlkaa
