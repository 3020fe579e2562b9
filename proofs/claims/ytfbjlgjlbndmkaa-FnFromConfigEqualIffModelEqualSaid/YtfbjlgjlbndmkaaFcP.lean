import Derived.Test.YtfbjlgjlbndmkaaKit
import Derived.Test.YtfbjlgjlbndmkaaFcN
namespace Go.Proofs.Ytfbjlgjlbndmkaa
open Go.ChangeShapes Go.WideShapes Go.ChangeAt Go.RowKit
set_option linter.unusedVariables false
set_option maxRecDepth 100000
set_option maxHeartbeats 2000000

theorem band_nat (a b : Nat) (ha : a < 65536) (hb : b < 65536) : bits .and .u16 (a : Int) (b : Int) = ((a &&& b : Nat) : Int) := by
  have hx : a &&& b < 2 ^ 16 := Nat.and_lt_two_pow _ (by omega)
  have h1 : (BitVec.ofInt 16 (a : Int)).toNat = a := by
    rw [BitVec.ofInt_natCast, BitVec.toNat_ofNat]; exact Nat.mod_eq_of_lt (by omega)
  have h2 : (BitVec.ofInt 16 (b : Int)).toNat = b := by
    rw [BitVec.ofInt_natCast, BitVec.toNat_ofNat]; exact Nat.mod_eq_of_lt (by omega)
  show IntKind.u16.wrap ((BitVec.ofInt 16 (a : Int) &&& BitVec.ofInt 16 (b : Int)).toNat : Int) = _
  rw [BitVec.toNat_and, h1, h2]
  simp only [IntKind.wrap, IntKind.signed, IntKind.bits]
  simp
  omega
theorem bitB_nat (x i : Nat) (hx : x < 65536) : bitB (x : Int) i = Nat.testBit x i := by
  have h1 : x / 2 ^ i < 65536 := Nat.lt_of_le_of_lt (Nat.div_le_self _ _) hx
  have h := band_nat (x / 2 ^ i) 1 h1 (by omega)
  unfold bitB
  rw [show ((x : Int) / 2 ^ i) = ((x / 2 ^ i : Nat) : Int) by simp, show (1 : Int) = ((1 : Nat) : Int) from rfl, h, Nat.and_one_is_mod, Nat.testBit_eq_decide_div_mod_eq, Bool.eq_iff_iff]
  simp only [beq_iff_eq, decide_eq_true_eq]
  omega
theorem mask_nat (x y : Nat) (hx : x < 65536) (hy : y < 65536) : (bits BinOp.and IntKind.u16 (x : Int) 2047 = bits BinOp.and IntKind.u16 (y : Int) 2047) ↔ ∀ i, i < 11 → bitB (x : Int) i = bitB (y : Int) i := by
  have h1 := band_nat x 2047 hx (by omega)
  have h2 := band_nat y 2047 hy (by omega)
  rw [show (2047 : Int) = ((2047 : Nat) : Int) from rfl, h1, h2]
  have e1 : x &&& 2047 = x % 2 ^ 11 := Nat.and_two_pow_sub_one_eq_mod x 11
  have e2 : y &&& 2047 = y % 2 ^ 11 := Nat.and_two_pow_sub_one_eq_mod y 11
  rw [e1, e2]
  constructor
  · intro h i hi
    have h' : x % 2 ^ 11 = y % 2 ^ 11 := by exact_mod_cast h
    have := congrArg (fun z => Nat.testBit z i) h'
    simp only [Nat.testBit_mod_two_pow, hi, decide_true, Bool.true_and] at this
    rw [bitB_nat x i hx, bitB_nat y i hy]
    exact this
  · intro h
    have : x % 2 ^ 11 = y % 2 ^ 11 := by
      apply Nat.eq_of_testBit_eq
      intro i
      simp only [Nat.testBit_mod_two_pow]
      by_cases hi : i < 11
      · have := h i hi
        rw [bitB_nat x i hx, bitB_nat y i hy] at this
        rw [this]
      · simp [hi]
    exact_mod_cast this
theorem forall11 (p : Nat → Prop) : (∀ i, i < 11 → p i) ↔ (p 0 ∧ p 1 ∧ p 2 ∧ p 3 ∧ p 4 ∧ p 5 ∧ p 6 ∧ p 7 ∧ p 8 ∧ p 9 ∧ p 10) := by
  constructor
  · intro h
    exact ⟨h 0 (by omega), h 1 (by omega), h 2 (by omega), h 3 (by omega), h 4 (by omega), h 5 (by omega), h 6 (by omega), h 7 (by omega), h 8 (by omega), h 9 (by omega), h 10 (by omega)⟩
  · rintro ⟨h0, h1, h2, h3, h4, h5, h6, h7, h8, h9, h10⟩ i hi
    have : i = 0 ∨ i = 1 ∨ i = 2 ∨ i = 3 ∨ i = 4 ∨ i = 5 ∨ i = 6 ∨ i = 7 ∨ i = 8 ∨ i = 9 ∨ i = 10 := by omega
    rcases this with rfl | rfl | rfl | rfl | rfl | rfl | rfl | rfl | rfl | rfl | rfl <;> assumption
/-- The plain law: the options compare as the model does. -/
theorem plain (e e' : ByteArray) (f f' o o' m m' B B' : Int) (mn rn mn' rn' : Bool) (a a' : Option Addr) (n n' c c' : Nat) (Sa Sb : Nat → ByteArray) (hB : 0 ≤ B ∧ B < 65536) (hB' : 0 ≤ B' ∧ B' < 65536) :
    (eqS e e' f f' o o' m m' B B' && ((mn == mn') && ((rn == rn') && eqL n n' Sa Sb))) = modEq e f o m B mn rn a n c e' f' o' m' B' mn' rn' a' n' c' Sa Sb := by
  obtain ⟨x, rfl⟩ : ∃ x : Nat, B = (x : Int) := ⟨B.toNat, by omega⟩
  obtain ⟨y, rfl⟩ : ∃ y : Nat, B' = (y : Int) := ⟨B'.toNat, by omega⟩
  have hm := mask_nat x y (by omega) (by omega)
  rw [forall11] at hm
  rw [Bool.eq_iff_iff]
  unfold modEq eqS
  simp only [Bool.and_eq_true, beq_iff_eq, Bool.true_and, Bool.and_true, true_and, and_true]
  rw [hm]
  constructor
  · rintro ⟨⟨h1, h2, h3, h4, h5⟩, h6⟩
    exact ⟨h5, h1, h2, h3, h4, h6⟩
  · rintro ⟨h5, h1, h2, h3, h4, h6⟩
    exact ⟨⟨h1, h2, h3, h4, h5⟩, h6⟩

end Go.Proofs.Ytfbjlgjlbndmkaa
