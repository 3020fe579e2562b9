import Derived.Test.YthmfjhadkmeldaaDoorKit
import GoSem.Core.Float
namespace Go.Proofs.YthmfjhadkmeldaaDoor
open Go.ChangeShapes Go.WideShapes Go.ChangeAt Go.RowKit
set_option linter.unusedVariables false
set_option maxRecDepth 100000
set_option maxHeartbeats 2000000

open Ieee
/-- The unit. -/
def EX : Nat := 1074
theorem EX_eq : EX = 1074 := rfl
def KK : Nat := 2 ^ EX
theorem KK_eq : KK = 2 ^ EX := rfl
theorem KK_pos : 0 < KK := Nat.two_pow_pos _
/-- The scaled value of a number. -/
def V (s : Bool) (m E : Nat) : Int := if s then -((m * 2 ^ E : Nat) : Int) else ((m * 2 ^ E : Nat) : Int)
theorem read_num (x : Nat) :
    (∃ (s : Bool) (m E : Nat), Ieee.double.read x = .number s m (-1074 + (E : Int))) ∨ (∃ s, Ieee.double.read x = .infinity s) ∨ ∃ s f, Ieee.double.read x = .nan s f := by
  have e1 : Ieee.double.signWeight = 9223372036854775808 := by decide
  have e2 : Ieee.double.binade = 4503599627370496 := by decide
  have e3 : Ieee.double.infRung = 9218868437227405312 := by decide
  have e4 : Ieee.double.leastPlace = -1074 := by decide
  unfold Ieee.Format.read
  rw [e1, e2, e3, e4]
  simp only []
  split
  · exact .inl ⟨_, _, 0, rfl⟩
  split
  · exact .inl ⟨_, _, _, rfl⟩
  split
  · exact .inr (.inl ⟨_, rfl⟩)
  · exact .inr (.inr ⟨_, _, rfl⟩)
theorem signed_V (s : Bool) (m E : Nat) : Ieee.signed s m E = V s m E := by
  unfold Ieee.signed V
  rw [Nat.shiftLeft_eq]
  
theorem V_add (s : Bool) (m E b : Nat) : V s m (E + b) = V s m E * (2 ^ b : Nat) := by
  unfold V
  rw [Nat.pow_add, ← Nat.mul_assoc]
  cases s <;> simp [Int.neg_mul]
theorem compare_mul (a b : Int) (k : Nat) (hk : 0 < k) : compare (a * (k : Int)) (b * (k : Int)) = compare a b := by
  have hk' : (0 : Int) < (k : Int) := by omega
  rcases Int.lt_trichotomy a b with h | h | h
  · rw [Std.compare_eq_lt.2 h, Std.compare_eq_lt.2 (Int.mul_lt_mul_of_pos_right h hk')]
  · subst h; simp
  · rw [Std.compare_eq_gt.2 h, Std.compare_eq_gt.2 (Int.mul_lt_mul_of_pos_right h hk')]
theorem order_V (s t : Bool) (m n E G : Nat) : Ieee.Datum.order (.number s m (-1074 + (E : Int))) (.number t n (-1074 + (G : Int))) = some (compare (V s m E) (V t n G)) := by
  unfold Ieee.Datum.order
  simp only [signed_V]
  have e1 : (-1074 + (E : Int) - min (-1074 + (E : Int)) (-1074 + (G : Int))).toNat = E - min E G := by omega
  have e2 : (-1074 + (G : Int) - min (-1074 + (E : Int)) (-1074 + (G : Int))).toNat = G - min E G := by omega
  rw [e1, e2]
  congr 1
  have h1 : E - min E G + min E G = E := by omega
  have h2 : G - min E G + min E G = G := by omega
  have k1 := V_add s m (E - min E G) (min E G)
  have k2 := V_add t n (G - min E G) (min E G)
  rw [h1] at k1
  rw [h2] at k2
  rw [k1, k2, compare_mul _ _ _ (Nat.two_pow_pos _)]
/-- The number nearest to an int32 is the int32. -/
theorem read_nearest (i : Int) (h0 : -4294967296 < i) (h1 : i < 4294967296) :
    ∃ m E : Nat, Ieee.double.read (FloatKind.f64.nearest i) = .number (decide (i < 0)) m (-1074 + (E : Int)) ∧ V (decide (i < 0)) m E = i * (KK : Int) := by
  have e1 : Ieee.double.signWeight = 9223372036854775808 := by decide
  have e2 : Ieee.double.binade = 4503599627370496 := by decide
  have e3 : Ieee.double.infRung = 9218868437227405312 := by decide
  have e4 : Ieee.double.leastPlace = -1074 := by decide
  have e5 : Ieee.double.fractionBits = 52 := by decide
  by_cases hz : i = 0
  · subst hz
    exact ⟨0, 0, by decide, by unfold V; simp⟩
  obtain ⟨n, hn⟩ : ∃ n, i.natAbs = n := ⟨_, rfl⟩
  have hn0 : n ≠ 0 := by omega
  have hn1 : n < 2 ^ 32 := by omega
  obtain ⟨L, hL⟩ : ∃ L, n.log2 = L := ⟨_, rfl⟩
  have hL1 : L < 32 := by rw [← hL]; exact (Nat.log2_lt hn0).2 hn1
  have hlo : 2 ^ L ≤ n := by rw [← hL]; exact Nat.log2_self_le hn0
  have hhi : n < 2 ^ (L + 1) := by rw [← hL]; exact Nat.lt_log2_self
  obtain ⟨K, hK⟩ : ∃ K, n <<< (52 - L) = K := ⟨_, rfl⟩
  have hK' : K = n * 2 ^ (52 - L) := by rw [← hK, Nat.shiftLeft_eq]
  have hp : 2 ^ L * 2 ^ (52 - L) = 4503599627370496 := by rw [← Nat.pow_add, show L + (52 - L) = 52 by omega]
  have hKlo : 4503599627370496 ≤ K := by rw [hK', ← hp]; exact Nat.mul_le_mul_right _ hlo
  have hKhi : K < 9007199254740992 := by
    rw [hK']
    have : n * 2 ^ (52 - L) < 2 ^ (L + 1) * 2 ^ (52 - L) := Nat.mul_lt_mul_of_pos_right hhi (Nat.two_pow_pos _)
    rw [Nat.pow_succ, Nat.mul_right_comm, hp] at this
    exact this
  have hnear : FloatKind.f64.nearest i = Ieee.double.word (decide (i < 0)) ((L + 1022) * 4503599627370496 + K) := by
    unfold FloatKind.nearest FloatKind.encode FloatKind.format
    simp only []
    unfold Ieee.Format.write
    simp only []
    unfold Ieee.Format.nearest
    rw [hn, if_neg hn0, e2, e3, e4, e5, hL]
    simp only []
    have a1 : max ((0 : Int) + (L : Int) - (52 : Nat)) (-1074) = (L : Int) - 52 := by omega
    rw [a1]
    have a2 : ((0 : Int) - ((L : Int) - 52)).toNat = 52 - L := by omega
    have a3 : (((L : Int) - 52) - 0).toNat = 0 := by omega
    have a4 : (((L : Int) - 52) - -1074).toNat = L + 1022 := by omega
    rw [a2, a3, a4, hK]
    have a5 : Ieee.Toward.even.cut (decide (i < 0)) K 0 = K := by
      unfold Ieee.Toward.cut
      simp [Nat.mod_one]
    rw [a5, Nat.min_eq_left (by omega)]
  have hrung : (L + 1022) * 4503599627370496 + K < 9218868437227405312 := by omega
  refine ⟨K, L + 1022, ?_, ?_⟩
  · rw [hnear]
    unfold Ieee.Format.word Ieee.Format.read
    rw [e1, e2, e3, e4]
    simp only []
    have b1 : (if (decide (i < 0)) = true then 9223372036854775808 + ((L + 1022) * 4503599627370496 + K) else ((L + 1022) * 4503599627370496 + K)) % 9223372036854775808 = (L + 1022) * 4503599627370496 + K := by
      split <;> omega
    have b2 : ((if (decide (i < 0)) = true then 9223372036854775808 + ((L + 1022) * 4503599627370496 + K) else ((L + 1022) * 4503599627370496 + K)) / 9223372036854775808 % 2 == 1) = decide (i < 0) := by
      by_cases hi : i < 0
      · simp only [hi, decide_true, if_true]
        rw [beq_iff_eq]; omega
      · simp only [hi, decide_false, Bool.false_eq_true, if_false]
        rw [beq_eq_false_iff_ne]; omega
    rw [b1, b2, if_neg (by omega), if_pos hrung]
    congr 1
    · omega
    · congr 1; omega
  · have c1 : K * 2 ^ (L + 1022) = n * KK := by
      rw [KK_eq, hK', Nat.mul_assoc, ← Nat.pow_add, show 52 - L + (L + 1022) = EX by rw [EX_eq]; omega]
    unfold V
    rw [c1]
    clear c1 hrung hnear hKhi hKlo hp hK' hK hhi hlo hL1 hL
    generalize KK = Q
    by_cases hi : i < 0
    · have e : i = -(n : Int) := by omega
      subst e
      simp only [hi, decide_true, if_true]
      rw [Int.natCast_mul, Int.neg_mul]
    · have e : i = (n : Int) := by omega
      subst e
      simp only [hi, decide_false, Bool.false_eq_true, if_false]
      rw [Int.natCast_mul]

/-- Towards zero. -/
theorem toInt_V (s : Bool) (m E : Nat) : Ieee.Datum.toInt .zero (.number s m (-1074 + (E : Int))) = some (if s then -((m * 2 ^ E / KK : Nat) : Int) else ((m * 2 ^ E / KK : Nat) : Int)) := by
  have hcut : Ieee.Toward.zero.cut s (m <<< (-1074 + (E : Int)).toNat) (-(-1074 + (E : Int))).toNat = m * 2 ^ E / KK := by
    rw [KK_eq]
    unfold Ieee.Toward.cut
    simp only [Bool.toNat_false, Nat.add_zero]
    rw [Nat.shiftLeft_eq, Nat.shiftLeft_eq, Nat.one_mul]
    have hE := EX_eq
    rcases Nat.lt_or_ge E EX with h | h
    · have a1 : (-1074 + (E : Int)).toNat = 0 := by omega
      have a2 : (-(-1074 + (E : Int))).toNat = EX - E := by omega
      rw [a1, a2, Nat.pow_zero, Nat.mul_one]
      have a3 : (2 : Nat) ^ EX = 2 ^ (EX - E) * 2 ^ E := by rw [← Nat.pow_add, show EX - E + E = EX by omega]
      rw [a3, Nat.mul_div_mul_right _ _ (Nat.two_pow_pos _)]
      rcases Nat.le_total (EX - E) (m.log2 + 2) with hm | hm
      · rw [Nat.min_eq_left hm]
      · rw [Nat.min_eq_right hm]
        have hlt : m < 2 ^ (m.log2 + 2) := Nat.lt_trans Nat.lt_log2_self (Nat.pow_lt_pow_right (by omega) (by omega))
        have hlt2 : m < 2 ^ (EX - E) := Nat.lt_of_lt_of_le hlt (Nat.pow_le_pow_right (by omega) hm)
        rw [Nat.div_eq_of_lt hlt, Nat.div_eq_of_lt hlt2]
    · have a1 : (-1074 + (E : Int)).toNat = E - EX := by omega
      have a2 : (-(-1074 + (E : Int))).toNat = 0 := by omega
      have a3 : (2 : Nat) ^ E = 2 ^ (E - EX) * 2 ^ EX := by rw [← Nat.pow_add, show E - EX + EX = E by omega]
      rw [a1, a2, Nat.zero_min, Nat.pow_zero, Nat.div_one, a3, ← Nat.mul_assoc, Nat.mul_div_cancel _ (Nat.two_pow_pos _)]
  unfold Ieee.Datum.toInt Ieee.Datum.integral
  simp only [hcut]
  unfold Ieee.signed
  simp only [Nat.shiftLeft_zero]
/-- How a number stands to an int32. -/
theorem order_int {x : Nat} {s : Bool} {m E : Nat} (hx : Ieee.double.read x = .number s m (-1074 + (E : Int))) (i : Int) (h0 : -4294967296 < i) (h1 : i < 4294967296) :
    Ieee.double.order x (FloatKind.f64.nearest i) = some (compare (V s m E) (i * (KK : Int))) ∧ Ieee.double.order (FloatKind.f64.nearest i) x = some (compare (i * (KK : Int)) (V s m E)) := by
  obtain ⟨n, G, hr, hv⟩ := read_nearest i h0 h1
  unfold Ieee.Format.order
  rw [hx, hr, order_V, order_V, hv]
  exact ⟨rfl, rfl⟩
def MX : Nat := 2045
def MAX : Nat := 9218868437227405311
def NMAX : Nat := 18442240474082181119
theorem read_max : Ieee.double.read MAX = .number false 9007199254740991 (-1074 + (MX : Int)) ∧ Ieee.double.read NMAX = .number true 9007199254740991 (-1074 + (MX : Int)) := ⟨by decide, by decide⟩
theorem fl_arith (K : Nat) (hK : 0 < K) (M : Nat) (s : Bool) (i : Int) (h : i * (K : Int) = if s then -(M : Int) else (M : Int)) : (if s then -((M / K : Nat) : Int) else ((M / K : Nat) : Int)) = i := by
  have hM : M = i.natAbs * K := by
    have : (i * (K : Int)).natAbs = M := by rw [h]; cases s <;> simp
    rw [Int.natAbs_mul, Int.natAbs_natCast] at this
    exact this.symm
  subst hM
  rw [Nat.mul_div_cancel _ hK]
  have hk0 : (0 : Int) < (K : Int) := by omega
  cases s
  · simp only [Bool.false_eq_true, if_false] at h ⊢
    rw [Int.natCast_mul] at h
    have := Int.eq_of_mul_eq_mul_right (by omega) h
    omega
  · simp only [if_true] at h ⊢
    rw [Int.natCast_mul, ← Int.neg_mul] at h
    have := Int.eq_of_mul_eq_mul_right (by omega) h
    omega
/-- A float that equals an int32. -/
theorem eq_int {x : Nat} (i : Int) (h0 : -2147483648 ≤ i) (h1 : i ≤ 2147483647) (h : Ieee.double.order (FloatKind.f64.nearest i) x = some .eq) :
    (Ieee.double.read x).toInt .zero = some i ∧ Ieee.double.order x x = some .eq ∧ Ieee.double.order x MAX ≠ some .gt ∧ Ieee.double.order x NMAX ≠ some .lt ∧
    Ieee.double.order x (FloatKind.f64.nearest (-2147483648)) ≠ some .lt ∧ Ieee.double.order x (FloatKind.f64.nearest 2147483647) ≠ some .gt := by
  rcases read_num x with ⟨s, m, E, hx⟩ | ⟨s, hx⟩ | ⟨s, f, hx⟩
  · have hv := (order_int hx i (by omega) (by omega)).2
    rw [h] at hv
    injection hv with hv
    have hv' := (Std.LawfulEqOrd.eq_of_compare hv.symm)
    have hKp := KK_pos
    obtain ⟨X, hX⟩ : ∃ X : Nat, X = 971 := ⟨_, rfl⟩
    have hXM : X + EX = MX := by rw [hX, EX_eq]; rfl
    have hK31 : (2 : Nat) ^ MX = 2 ^ X * KK := by rw [KK_eq, ← Nat.pow_add, hXM]
    refine ⟨?_, ?_, ?_, ?_, ?_, ?_⟩
    · rw [hx, toInt_V]
      exact congrArg some (fl_arith KK hKp (m * 2 ^ E) s i hv')
    · unfold Ieee.Format.order
      rw [hx, order_V]
      simp
    · unfold Ieee.Format.order
      rw [hx, read_max.1, order_V, ← hv']
      intro e
      injection e with e
      have := Std.compare_eq_gt.1 e
      unfold V at this
      simp only [Bool.false_eq_true, if_false] at this
      rw [hK31, ← Nat.mul_assoc, Int.natCast_mul] at this
      have h971 : 1 ≤ 2 ^ X := Nat.one_le_two_pow
      have h2 : 9007199254740991 * 1 ≤ 9007199254740991 * 2 ^ X := Nat.mul_le_mul_left _ h971
      generalize 9007199254740991 * 2 ^ X = J at this h2
      generalize KK = K at this hKp
      have := Int.lt_of_mul_lt_mul_right this (by omega)
      omega
    · unfold Ieee.Format.order
      rw [hx, read_max.2, order_V, ← hv']
      intro e
      injection e with e
      have := Std.compare_eq_lt.1 e
      unfold V at this
      simp only [if_true] at this
      rw [hK31, ← Nat.mul_assoc, Int.natCast_mul, ← Int.neg_mul] at this
      have h971 : 1 ≤ 2 ^ X := Nat.one_le_two_pow
      have h2 : 9007199254740991 * 1 ≤ 9007199254740991 * 2 ^ X := Nat.mul_le_mul_left _ h971
      generalize 9007199254740991 * 2 ^ X = J at this h2
      generalize KK = K at this hKp
      have := Int.lt_of_mul_lt_mul_right this (by omega)
      omega
    · rw [(order_int hx _ (by omega) (by omega)).1, ← hv']
      intro e
      injection e with e
      have := Std.compare_eq_lt.1 e
      generalize KK = K at this hKp
      have := Int.lt_of_mul_lt_mul_right this (by omega)
      omega
    · rw [(order_int hx _ (by omega) (by omega)).1, ← hv']
      intro e
      injection e with e
      have := Std.compare_eq_gt.1 e
      generalize KK = K at this hKp
      have := Int.lt_of_mul_lt_mul_right this (by omega)
      omega
  · obtain ⟨m, E, hr, hv⟩ := read_nearest i (by omega) (by omega)
    unfold Ieee.Format.order at h
    rw [hr, hx] at h
    unfold Ieee.Datum.order at h
    simp only [] at h
    split at h <;> cases h
  · obtain ⟨m, E, hr, hv⟩ := read_nearest i (by omega) (by omega)
    unfold Ieee.Format.order at h
    rw [hr, hx] at h
    cases h
/-- What lies in the range of int32 is cut to an int32. -/
theorem in_range {x : Nat} (h1 : Ieee.double.order x (FloatKind.f64.nearest (-2147483648)) = some .eq ∨ Ieee.double.order x (FloatKind.f64.nearest (-2147483648)) = some .gt)
    (h2 : Ieee.double.order x (FloatKind.f64.nearest 2147483647) = some .eq ∨ Ieee.double.order x (FloatKind.f64.nearest 2147483647) = some .lt) :
    ∃ t, (Ieee.double.read x).toInt .zero = some t ∧ -2147483648 ≤ t ∧ t ≤ 2147483647 := by
  rcases read_num x with ⟨s, m, E, hx⟩ | ⟨s, hx⟩ | ⟨s, f, hx⟩
  · rw [(order_int hx _ (by omega) (by omega)).1] at h1 h2
    have hKp := KK_pos
    have g1 : -2147483648 * (KK : Int) ≤ V s m E := by
      rcases h1 with h | h
      · injection h with h; exact Int.le_of_eq (Std.LawfulEqOrd.eq_of_compare h).symm
      · injection h with h; exact Int.le_of_lt (Std.compare_eq_gt.1 h)
    have g2 : V s m E ≤ 2147483647 * (KK : Int) := by
      rcases h2 with h | h
      · injection h with h; exact Int.le_of_eq (Std.LawfulEqOrd.eq_of_compare h)
      · injection h with h; exact Int.le_of_lt (Std.compare_eq_lt.1 h)
    refine ⟨_, by rw [hx, toInt_V], ?_⟩
    unfold V at g1 g2
    generalize m * 2 ^ E = M at g1 g2
    generalize KK = K at g1 g2 hKp
    cases s
    · simp only [Bool.false_eq_true, if_false] at g1 g2 ⊢
      have h1 : M / K ≤ 2147483647 := Nat.div_le_of_le_mul (by rw [Nat.mul_comm]; omega)
      generalize M / K = q at h1 ⊢
      omega
    · simp only [if_true] at g1 g2 ⊢
      have h1 : M / K ≤ 2147483648 := Nat.div_le_of_le_mul (by rw [Nat.mul_comm]; omega)
      generalize M / K = q at h1 ⊢
      omega
  · exfalso
    obtain ⟨m, E, hr, hv⟩ := read_nearest (-2147483648) (by omega) (by omega)
    obtain ⟨m', E', hr', hv'⟩ := read_nearest 2147483647 (by omega) (by omega)
    unfold Ieee.Format.order at h1 h2
    rw [hx, hr] at h1
    rw [hx, hr'] at h2
    unfold Ieee.Datum.order at h1 h2
    simp only [] at h1 h2
    cases s <;> simp at h1 h2
  · exfalso
    unfold Ieee.Format.order at h1
    rw [hx] at h1
    rcases h1 with h1 | h1 <;> cases h1
/-- An exact number stands in order to every int32. -/
theorem eq_int2 {x : Nat} (i : Int) (h0 : -2147483648 ≤ i) (h1 : i ≤ 2147483647) (h : Ieee.double.order (FloatKind.f64.nearest i) x = some .eq) :
    (Ieee.double.order x (FloatKind.f64.nearest (-2147483648)) = some .gt ∨ Ieee.double.order x (FloatKind.f64.nearest (-2147483648)) = some .eq) ∧ (Ieee.double.order x (FloatKind.f64.nearest 2147483647) = some .lt ∨ Ieee.double.order x (FloatKind.f64.nearest 2147483647) = some .eq) := by
  obtain ⟨_, hxx, _, _, h3, h4⟩ := eq_int i h0 h1 h
  rcases read_num x with ⟨s, m, E, hx⟩ | ⟨s, hx⟩ | ⟨s, f, hx⟩
  · rw [(order_int hx (-2147483648) (by omega) (by omega)).1] at h3 ⊢
    rw [(order_int hx 2147483647 (by omega) (by omega)).1] at h4 ⊢
    revert h3 h4
    generalize compare (V s m E) (-2147483648 * (KK : Int)) = c
    generalize compare (V s m E) (2147483647 * (KK : Int)) = d
    cases c <;> cases d <;> simp
  · obtain ⟨m, E, hr, hv⟩ := read_nearest i (by omega) (by omega)
    unfold Ieee.Format.order at h
    rw [hr, hx] at h
    unfold Ieee.Datum.order at h
    simp only [] at h
    split at h <;> cases h
  · unfold Ieee.Format.order at hxx
    rw [hx] at hxx
    cases hxx
def negF (x : Nat) : Nat := x ^^^ 9223372036854775808
theorem read_neg (x : Nat) (hx : x < 18446744073709551616) : Ieee.double.read (negF x) = (Ieee.double.read x).opposite := by
  have e1 : Ieee.double.signWeight = 9223372036854775808 := by decide
  have h1 : negF x % 9223372036854775808 = x % 9223372036854775808 := by
    unfold negF
    rw [show (9223372036854775808 : Nat) = 2 ^ 63 from rfl, Nat.xor_mod_two_pow, Nat.mod_self, Nat.xor_zero]
  have h2 : negF x / 9223372036854775808 = (x / 9223372036854775808) ^^^ 1 := by
    unfold negF
    rw [show (9223372036854775808 : Nat) = 2 ^ 63 from rfl, Nat.xor_div_two_pow, Nat.div_self (Nat.two_pow_pos _)]
  have h3 : x / 9223372036854775808 = 0 ∨ x / 9223372036854775808 = 1 := by omega
  unfold Ieee.Format.read
  rw [e1]
  simp only []
  rw [h1, h2]
  generalize x % 9223372036854775808 = r
  have hs : ((x / 9223372036854775808 ^^^ 1) % 2 == 1) = !(x / 9223372036854775808 % 2 == 1) := by
    rcases h3 with h3 | h3 <;> rw [h3] <;> decide
  rw [hs]
  split
  · rfl
  split
  · rfl
  split
  · rfl
  · rfl
theorem V_neg (s : Bool) (m E : Nat) : V (!s) m E = -V s m E := by
  unfold V
  cases s <;> simp
/-- Past the least: the same as the greatest, turned round. -/
theorem neg_max (x : Nat) (hx : x < 18446744073709551616) : Ieee.double.order (negF x) MAX = some .gt ↔ Ieee.double.order x NMAX = some .lt := by
  unfold Ieee.Format.order
  rw [read_neg x hx, read_max.1, read_max.2]
  rcases read_num x with ⟨s, m, E, hr⟩ | ⟨s, hr⟩ | ⟨s, f, hr⟩
  · rw [hr]
    show Ieee.Datum.order (.number (!s) m (-1074 + (E : Int))) _ = _ ↔ _
    rw [order_V, order_V, V_neg, show V true 9007199254740991 MX = -V false 9007199254740991 MX from V_neg false _ _]
    generalize V s m E = a
    generalize V false 9007199254740991 MX = b
    simp only [Option.some.injEq]
    rw [Std.compare_eq_gt, Std.compare_eq_lt]
    constructor <;> intro h <;> omega
  · rw [hr]
    cases s <;> simp [Ieee.Datum.opposite, Ieee.Datum.order]
  · rw [hr]
    simp [Ieee.Datum.opposite, Ieee.Datum.order]

end Go.Proofs.YthmfjhadkmeldaaDoor
