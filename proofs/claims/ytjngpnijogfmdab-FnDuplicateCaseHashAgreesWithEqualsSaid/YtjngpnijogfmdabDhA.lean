import Derived.Test.YtjngpnijogfmdabKit
namespace Go.Proofs.Ytjngpnijogfmdab.fnDuplicateCaseHashAgreesWithEquals
open Go.ChangeShapes Go.WideShapes Go.ChangeAt Go.RowKit
set_option linter.unusedVariables false
set_option maxRecDepth 100000
set_option maxHeartbeats 2000000

open Ieee in
theorem read_cases (x : Nat) (hx : x < 18446744073709551616) :
    (∃ (m E : Nat), Ieee.double.read x = .number (x / 9223372036854775808 % 2 == 1) m (-1074 + (E : Int)) ∧ ((E = 0 ∧ m = x % 9223372036854775808 ∧ m < 9007199254740992) ∨ (0 < E ∧ 4503599627370496 ≤ m ∧ m < 9007199254740992 ∧ x % 9223372036854775808 = (E + 1) * 4503599627370496 + (m - 4503599627370496)))) ∨
    (Ieee.double.read x = .infinity (x / 9223372036854775808 % 2 == 1) ∧ x % 9223372036854775808 = 9218868437227405312) ∨ ∃ f, Ieee.double.read x = .nan (x / 9223372036854775808 % 2 == 1) f := by
  have e1 : Ieee.double.signWeight = 9223372036854775808 := by decide
  have e2 : Ieee.double.binade = 4503599627370496 := by decide
  have e3 : Ieee.double.infRung = 9218868437227405312 := by decide
  have e4 : Ieee.double.leastPlace = -1074 := by decide
  unfold Ieee.Format.read
  rw [e1, e2, e3, e4]
  simp only []
  obtain ⟨r, hr⟩ : ∃ r, x % 9223372036854775808 = r := ⟨_, rfl⟩
  rw [hr]
  by_cases h1 : r < 4503599627370496
  · refine .inl ⟨r, 0, ?_, .inl ⟨rfl, rfl, by omega⟩⟩
    rw [if_pos h1]
    rfl
  rw [if_neg h1]
  by_cases h2 : r < 9218868437227405312
  · rw [if_pos h2]
    refine .inl ⟨4503599627370496 + r % 4503599627370496, r / 4503599627370496 - 1, rfl, ?_⟩
    by_cases h3 : r < 9007199254740992
    · refine .inl ⟨by omega, by omega, by omega⟩
    · refine .inr ⟨by omega, by omega, by omega, by omega⟩
  rw [if_neg h2]
  by_cases h3 : r = 9218868437227405312
  · rw [if_pos h3]
    exact .inr (.inl ⟨rfl, h3⟩)
  · rw [if_neg h3]
    exact .inr (.inr ⟨_, rfl⟩)

theorem shl_le {m n a b E G : Nat} (hEG : E < G) (hm : m < 9007199254740992) (hn : 4503599627370496 ≤ n) (ha : a = 0) (hb : b = G - E) (h : m <<< a = n <<< b) : False := by
  subst ha
  obtain ⟨c, rfl⟩ : ∃ c, b = c + 1 := ⟨b - 1, by omega⟩
  rw [Nat.shiftLeft_zero, Nat.shiftLeft_eq, Nat.pow_succ] at h
  have h1 : 1 ≤ 2 ^ c := Nat.one_le_two_pow
  have h2 : n * 1 ≤ n * 2 ^ c := Nat.mul_le_mul_left n h1
  have h3 : n * (2 ^ c * 2) = n * 2 ^ c * 2 := by rw [Nat.mul_assoc]
  omega

theorem mag_eq {rx ry m n E G : Nat} (hx : (E = 0 ∧ m = rx ∧ m < 9007199254740992) ∨ (0 < E ∧ 4503599627370496 ≤ m ∧ m < 9007199254740992 ∧ rx = (E + 1) * 4503599627370496 + (m - 4503599627370496)))
    (hy : (G = 0 ∧ n = ry ∧ n < 9007199254740992) ∨ (0 < G ∧ 4503599627370496 ≤ n ∧ n < 9007199254740992 ∧ ry = (G + 1) * 4503599627370496 + (n - 4503599627370496)))
    (h : m <<< (E - min E G) = n <<< (G - min E G)) : rx = ry := by
  rcases Nat.lt_trichotomy E G with hlt | heq | hgt
  · exact (shl_le hlt (by omega) (by omega) (by omega) (b := G - min E G) (by omega) h).elim
  · subst heq
    simp at h
    omega
  · exact (shl_le hgt (by omega) (by omega) (by omega) (b := E - min E G) (by omega) h.symm).elim

theorem shl_zero {m a : Nat} (h : m <<< a = 0) : m = 0 := by
  rw [Nat.shiftLeft_eq] at h
  rcases Nat.mul_eq_zero.1 h with h | h
  · exact h
  · have := Nat.one_le_two_pow (n := a)
    omega

theorem num_order {s t : Bool} {m n E G : Nat} (h : Ieee.Datum.order (.number s m (-1074 + (E : Int))) (.number t n (-1074 + (G : Int))) = some .eq) :
    (s = t ∧ m <<< (E - min E G) = n <<< (G - min E G)) ∨ (m = 0 ∧ n = 0) := by
  unfold Ieee.Datum.order at h
  simp only [] at h
  injection h with h
  have e1 : (-1074 + (E : Int) - min (-1074 + (E : Int)) (-1074 + (G : Int))).toNat = E - min E G := by omega
  have e2 : (-1074 + (G : Int) - min (-1074 + (E : Int)) (-1074 + (G : Int))).toNat = G - min E G := by omega
  rw [e1, e2] at h
  have h' := Std.LawfulEqOrd.eq_of_compare h
  unfold Ieee.signed at h'
  obtain ⟨A, hA⟩ : ∃ A, m <<< (E - min E G) = A := ⟨_, rfl⟩
  obtain ⟨B, hB⟩ : ∃ B, n <<< (G - min E G) = B := ⟨_, rfl⟩
  rw [hA, hB] at h' ⊢
  cases s <;> cases t <;> simp only [Bool.false_eq_true, if_false, if_true] at h'
  · exact .inl ⟨rfl, by omega⟩
  · refine .inr ⟨shl_zero (hA.trans (by omega)), shl_zero (hB.trans (by omega))⟩
  · refine .inr ⟨shl_zero (hA.trans (by omega)), shl_zero (hB.trans (by omega))⟩
  · exact .inl ⟨rfl, by omega⟩

/-- Two floats that are equal have the same bits, but for the zeros. -/
theorem feq {x y : Nat} (hx : x < 18446744073709551616) (hy : y < 18446744073709551616) (h : Ieee.double.order x y = some .eq) : x = y ∨ (Ieee.double.order x 0 = some .eq ∧ Ieee.double.order y 0 = some .eq) := by
  unfold Ieee.Format.order at h
  have key : ∀ {r : Nat} {u : Nat}, u < 18446744073709551616 → u % 9223372036854775808 = 0 → Ieee.double.order u 0 = some .eq := by
    intro r u hu h0
    have : u = 0 ∨ u = 9223372036854775808 := by omega
    rcases this with rfl | rfl <;> decide
  rcases read_cases x hx with ⟨m, E, ex, cx⟩ | ⟨ex, cx⟩ | ⟨f, ex⟩
  · rcases read_cases y hy with ⟨n, G, ey, cy⟩ | ⟨ey, cy⟩ | ⟨g, ey⟩
    · rw [ex, ey] at h
      rcases num_order h with ⟨hs, hm⟩ | ⟨rfl, rfl⟩
      · have hr := mag_eq cx cy hm
        refine .inl ?_
        have hs' : (x / 9223372036854775808 % 2 = 1) ↔ (y / 9223372036854775808 % 2 = 1) := by
          rw [← beq_iff_eq, ← beq_iff_eq (a := y / 9223372036854775808 % 2), hs]
        omega
      · exact .inr ⟨key (r := 0) hx (by omega), key (r := 0) hy (by omega)⟩
    · rw [ex, ey] at h
      unfold Ieee.Datum.order at h
      simp only [] at h
      split at h <;> cases h
    · rw [ex, ey] at h
      cases h
  · rcases read_cases y hy with ⟨n, G, ey, cy⟩ | ⟨ey, cy⟩ | ⟨g, ey⟩
    · rw [ex, ey] at h
      unfold Ieee.Datum.order at h
      simp only [] at h
      split at h <;> cases h
    · rw [ex, ey] at h
      refine .inl ?_
      have hs' : (x / 9223372036854775808 % 2 = 1) ↔ (y / 9223372036854775808 % 2 = 1) := by
        rw [← beq_iff_eq, ← beq_iff_eq (a := y / 9223372036854775808 % 2)]
        cases hsx : (x / 9223372036854775808 % 2 == 1) <;> cases hsy : (y / 9223372036854775808 % 2 == 1) <;> rw [hsx, hsy] at h <;> first | exact Iff.rfl | (exfalso; revert h; decide)
      omega
    · rw [ex, ey] at h
      cases h
  · rw [ex] at h
    cases h

end Go.Proofs.Ytjngpnijogfmdab.fnDuplicateCaseHashAgreesWithEquals
