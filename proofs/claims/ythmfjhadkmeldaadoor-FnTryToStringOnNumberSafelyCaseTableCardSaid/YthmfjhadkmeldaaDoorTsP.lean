import Derived.Test.YthmfjhadkmeldaaDoorKit
import Derived.Lib.ItoaNum
namespace Go.Proofs.YthmfjhadkmeldaaDoor
open Go.ChangeShapes Go.WideShapes Go.ChangeAt Go.RowKit
set_option linter.unusedVariables false
set_option maxRecDepth 100000
set_option maxHeartbeats 2000000

/-- A digit's byte. -/
def dgb (c : Nat) : UInt8 := UInt8.ofNat (if c < 10 then 48 + c else 87 + c)
/-- A number's digits, greatest first. -/
def digB (b u : Nat) : List UInt8 :=
  if h : u < b ∨ b < 2 then [dgb u] else digB b (u / b) ++ [dgb (u % b)]
termination_by u
decreasing_by
  have h1 : 2 ≤ b := by omega
  have h2 : b ≤ u := by omega
  exact Nat.div_lt_self (by omega) (by omega)
theorem digB_small {b u : Nat} (h : u < b) : digB b u = [dgb u] := by rw [digB, dif_pos (.inl h)]
theorem digB_big {b u : Nat} (hb : 2 ≤ b) (h : b ≤ u) : digB b u = digB b (u / b) ++ [dgb (u % b)] := by rw [digB, dif_neg (by omega)]
theorem dgb_nat {c : Nat} (h : c < 36) : (dgb c).toNat = if c < 10 then 48 + c else 87 + c := by
  unfold dgb
  rw [show (UInt8.ofNat (if c < 10 then 48 + c else 87 + c)).toNat = (if c < 10 then 48 + c else 87 + c) % 256 from rfl]
  split <;> omega
theorem dec_digB (u : Nat) : Lib.decDigits u = digB 10 u := by
  induction u using Nat.strongRecOn with
  | _ u ih =>
    by_cases h : u < 10
    · rw [Lib.decDigits, dif_pos h, digB_small h, dgb, if_pos h]
    · rw [Lib.decDigits, dif_neg h, digB_big (by omega) (by omega), ih (u / 10) (by omega), dgb, if_pos (by omega)]
/-- What is left to be written in front: nothing of 0. -/
def digZ (b u : Nat) : List UInt8 := if u = 0 then [] else digB b u
theorem digZ_step {b u : Nat} (hb : 2 ≤ b) (h : 0 < u) (L : List UInt8) : digZ b (u / b) ++ (dgb (u % b) :: L) = digZ b u ++ L := by
  unfold digZ
  rw [if_neg (show ¬ u = 0 by omega)]
  by_cases h1 : u < b
  · rw [Nat.div_eq_of_lt h1, if_pos rfl, Nat.mod_eq_of_lt h1, digB_small h1]; rfl
  · have h2 : 0 < u / b := Nat.div_pos (by omega) (by omega)
    rw [if_neg (by omega), digB_big (u := u) hb (by omega), List.append_assoc]
    rfl
theorem digB_step {b u : Nat} (hb : 2 ≤ b) (h : b ≤ u) (L : List UInt8) : digB b (u / b) ++ (dgb (u % b) :: L) = digB b u ++ L := by
  rw [digB_big hb h, List.append_assoc]
  rfl
/-- The text of an integer. -/
def numT (n : Int) (b : Nat) : List UInt8 := if n < 0 then 45 :: digB b n.natAbs else digB b n.natAbs
theorem itoa_numT (n : Int) : Lib.itoa n = numT n 10 := by
  unfold Lib.itoa numT
  rw [dec_digB, dec_digB]
  by_cases h : n < 0
  · rw [if_pos h, if_pos h]
  · rw [if_neg h, if_neg h, show n.toNat = n.natAbs by omega]
/-- The digits' text. -/
def dig36 : ByteArray := ⟨List.toArray (48 :: 49 :: 50 :: 51 :: 52 :: 53 :: 54 :: 55 :: 56 :: 57 :: 97 :: 98 :: 99 :: 100 :: 101 :: 102 :: 103 :: 104 :: 105 :: 106 :: 107 :: 108 :: 109 :: 110 :: 111 :: 112 :: 113 :: 114 :: 115 :: 116 :: 117 :: 118 :: 119 :: 120 :: 121 :: 122 :: [])⟩
theorem dig36_at : ∀ c : Fin 36, (dig36.data[c.val]?.getD 0) = dgb c.val := by decide +kernel
/-- Halves. -/
theorem div_pow {b u e : Nat} (hb : 2 ≤ b) (h : u < 2 ^ (e + 1)) : u / b < 2 ^ e := by
  refine Nat.div_lt_of_lt_mul ?_
  rw [Nat.pow_succ] at h
  have : 2 ^ e * 2 ≤ b * 2 ^ e := by rw [Nat.mul_comm]; exact Nat.mul_le_mul_right _ hb
  omega

end Go.Proofs.YthmfjhadkmeldaaDoor
