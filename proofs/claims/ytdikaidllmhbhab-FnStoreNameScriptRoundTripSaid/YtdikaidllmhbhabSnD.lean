import Derived.Test.YtdikaidllmhbhabKit
import Derived.Test.YtdikaidllmhbhabSnC
namespace Go.Proofs.Ytdikaidllmhbhab.fnStoreNameScriptRoundTrip
open Go.ChangeShapes Go.WideShapes Go.ChangeAt Go.RowKit
set_option linter.unusedVariables false
set_option maxRecDepth 100000
set_option maxHeartbeats 2000000

theorem compl32 (s : Nat) (h : s ≤ 4294967295) : 4294967295 ^^^ s = 4294967295 - s := by
  have h1 := BitVec.toNat_not (x := BitVec.ofNat 32 s)
  have h2 : ~~~(BitVec.ofNat 32 s) = BitVec.allOnes 32 ^^^ BitVec.ofNat 32 s := by
    rw [BitVec.allOnes_xor]
  rw [h2, BitVec.toNat_xor] at h1
  simp at h1
  rw [Nat.mod_eq_of_lt (by omega)] at h1
  exact h1
theorem xor_nat (a b : Nat) (ha : a < 4294967296) (hb : b < 4294967296) : bits .xor .u32 (a : Int) (b : Int) = ((a ^^^ b : Nat) : Int) := by
  have hx : a ^^^ b < 2 ^ 32 := Nat.xor_lt_two_pow (by omega) (by omega)
  have h1 : (BitVec.ofInt 32 (a : Int)).toNat = a := by
    rw [BitVec.ofInt_natCast, BitVec.toNat_ofNat]; exact Nat.mod_eq_of_lt (by omega)
  have h2 : (BitVec.ofInt 32 (b : Int)).toNat = b := by
    rw [BitVec.ofInt_natCast, BitVec.toNat_ofNat]; exact Nat.mod_eq_of_lt (by omega)
  show IntKind.u32.wrap ((BitVec.ofInt 32 (a : Int) ^^^ BitVec.ofInt 32 (b : Int)).toNat : Int) = _
  rw [BitVec.toNat_xor, h1, h2]
  simp only [IntKind.wrap, IntKind.bits, IntKind.signed]
  simp
  omega
theorem flip32 (s : Nat) (h : s ≤ 4294967295) : bits BinOp.xor IntKind.u32 IntKind.u32.max (s : Int) = 4294967295 - (s : Int) := by
  have e : IntKind.u32.max = ((4294967295 : Nat) : Int) := by decide
  rw [e, xor_nat _ _ (by omega) (by omega), compl32 s h]
  omega
theorem and_nat (a b : Nat) (ha : a < 4294967296) (hb : b < 4294967296) : bits .and .u32 (a : Int) (b : Int) = ((a &&& b : Nat) : Int) := by
  have hx : a &&& b < 2 ^ 32 := Nat.and_lt_two_pow _ (by omega)
  have h1 : (BitVec.ofInt 32 (a : Int)).toNat = a := by
    rw [BitVec.ofInt_natCast, BitVec.toNat_ofNat]; exact Nat.mod_eq_of_lt (by omega)
  have h2 : (BitVec.ofInt 32 (b : Int)).toNat = b := by
    rw [BitVec.ofInt_natCast, BitVec.toNat_ofNat]; exact Nat.mod_eq_of_lt (by omega)
  show IntKind.u32.wrap ((BitVec.ofInt 32 (a : Int) &&& BitVec.ofInt 32 (b : Int)).toNat : Int) = _
  rw [BitVec.toNat_and, h1, h2]
  simp only [IntKind.wrap, IntKind.bits, IntKind.signed]
  simp
  omega
/-- The top bit of a number of the upper half. -/
theorem top_bit (a : Nat) (h1 : 2147483648 ≤ a) (h2 : a < 4294967296) : bits .and .u32 (a : Int) 2147483648 ≠ 0 := by
  have e := and_nat a 2147483648 h2 (by omega)
  have : ((2147483648 : Nat) : Int) = 2147483648 := rfl
  rw [this] at e
  rw [e]
  intro h0
  have h0' : a &&& 2147483648 = 0 := by omega
  have ht := congrArg (fun x => x.testBit 31) h0'
  simp only [Nat.testBit_and, Nat.zero_testBit] at ht
  have e1 : (2147483648 : Nat).testBit 31 = true := by decide
  rw [e1, Bool.and_true] at ht
  have := Nat.testBit_lt_two_pow (x := a) (i := 31)
  rw [Nat.testBit] at ht
  simp [Nat.shiftRight_eq_div_pow] at ht
  omega

theorem valid24 (f : Int) (w : World) : Calls Try.prog 24 #[.agg #[.int .u32 f]] w fun e w' => e = .returned (.bool (f != 0)) ∧ Below w.heap.size w w' := by
  go_enter Try.func24, Try.ntmps24
  go_wp2_with fail
  go_ret
  exact ⟨rfl, by go_grown⟩
theorem make15 (s : Nat) (h1 : s ≤ 1048576) (w : World) : Calls Try.prog 15 #[.int .u32 s] w fun e w' => e = .returned (.agg #[.int .u32 (4294967295 - (s : Int))]) ∧ Below w.heap.size w w' := by
  have hf := flip32 s (by omega)
  go_enter Try.func15, Try.ntmps15
  go_wp2_with fail
  all_goals first
    | (exfalso; rename_i h; exact absurd h (by decide))
    | (go_returns; exact ⟨by first | rfl | rw [hf], by go_grown⟩)
theorem get25 (s : Nat) (h1 : s ≤ 1048576) (w : World) : Calls Try.prog 25 #[.agg #[.int .u32 (4294967295 - (s : Int))]] w fun e w' => e = .returned (.int .u32 s) ∧ Below w.heap.size w w' := by
  have hf : bits BinOp.xor IntKind.u32 IntKind.u32.max (4294967295 - (s : Int)) = s := by
    have := flip32 (4294967295 - s) (by omega)
    rw [show (((4294967295 - s : Nat)) : Int) = 4294967295 - (s : Int) by omega] at this
    rw [this]
    omega
  go_enter Try.func25, Try.ntmps25
  go_wp2_with fail
  all_goals first
    | (exfalso; rename_i h; exact absurd h (by decide))
    | (go_ret; exact ⟨by simp [hf], by go_grown⟩)

end Go.Proofs.Ytdikaidllmhbhab.fnStoreNameScriptRoundTrip
