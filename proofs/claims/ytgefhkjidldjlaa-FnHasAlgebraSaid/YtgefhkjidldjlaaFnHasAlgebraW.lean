import Derived.Test.YtgefhkjidldjlaaKit
namespace Go.Proofs.Ytgefhkjidldjlaa.fnHasAlgebra
open Go.ChangeShapes Go.WideShapes Go.ChangeAt Go.RowKit
set_option linter.unusedVariables false

theorem has_facts (a b c : Int) (ha : 0 ≤ a ∧ a ≤ 255) (hb : 0 ≤ b ∧ b ≤ 255) (hc : 0 ≤ c ∧ c ≤ 255) :
    bits .and .u8 b a = bits .and .u8 a b ∧
    ((bits .and .u8 a (bits .or .u8 b c) != 0) = ((bits .and .u8 a b != 0) || (bits .and .u8 a c != 0))) ∧
    bits .and .u8 a a = a ∧ bits .and .u8 a 0 = 0 := by
  obtain ⟨a, rfl⟩ := Int.eq_ofNat_of_zero_le ha.1
  obtain ⟨b, rfl⟩ := Int.eq_ofNat_of_zero_le hb.1
  obtain ⟨c, rfl⟩ := Int.eq_ofNat_of_zero_le hc.1
  have ha' : a < 256 := by omega
  have hb' : b < 256 := by omega
  have hc' : c < 256 := by omega
  have hor : b ||| c < 256 := Nat.or_lt_two_pow (n := 8) hb' hc'
  rw [u8_and_nat b a hb' ha', u8_and_nat a b ha' hb', u8_or_nat b c hb' hc', u8_and_nat a _ ha' hor, u8_and_nat a c ha' hc', u8_and_nat a a ha' ha']
  have h0 := u8_and_nat a 0 ha' (by omega)
  refine ⟨by rw [Nat.and_comm], ?_, by rw [Nat.and_self], by simpa using h0⟩
  rw [Nat.and_or_distrib_left, Bool.eq_iff_iff]
  simp only [bne_iff_ne, ne_eq, Bool.or_eq_true, Int.natCast_eq_zero, Nat.or_eq_zero_iff]
  omega

theorem walk (a0 : Int) (a1 : Int) (a2 : Int) (w : World) (w0 : (Lit.int .u8 a0).wf = true) (w1 : (Lit.int .u8 a1).wf = true) (w2 : (Lit.int .u8 a2).wf = true) :
    Calls Try.prog 6 #[.int .u8 a0, .int .u8 a1, .int .u8 a2] w fun e w' => e = .returned (.bool true) ∧ Below w.heap.size w w' := by
  have b0 := bounds_u8 w0
  have b1 := bounds_u8 w1
  have b2 := bounds_u8 w2
  obtain ⟨h1, h2, h3, h4⟩ := has_facts a0 a1 a2 b0 b1 b2
  obtain ⟨p, hp⟩ : ∃ p, (bits .and .u8 a0 a1 != 0) = p := ⟨_, rfl⟩
  obtain ⟨q, hq⟩ : ∃ q, (bits .and .u8 a0 a2 != 0) = q := ⟨_, rfl⟩
  obtain ⟨r, hr⟩ : ∃ r, (a0 != 0) = r := ⟨_, rfl⟩
  have h1' : (bits .and .u8 a1 a0 != 0) = p := by rw [h1]; exact hp
  rw [hp, hq] at h2
  have h3' : (bits .and .u8 a0 a0 != 0) = r := by rw [h3]; exact hr
  have h4' : (bits .and .u8 a0 0 != 0) = false := by rw [h4]; rfl
  clear h1 h3 h4 b0 b1 b2 w0 w1 w2
  cases p <;> cases q <;> cases r <;>
  · simp only [Bool.or_true, Bool.or_false, Bool.true_or, Bool.false_or] at h2
    go_enter Try.func6, Try.ntmps6
    go_wp2
    go_ret
    exact ⟨rfl, by go_grown⟩

end Go.Proofs.Ytgefhkjidldjlaa.fnHasAlgebra
