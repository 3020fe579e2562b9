import Derived.Test.YteccbmopijdibaaFmtKit
import Derived.Stop.FmtQuoteTie
import Derived.Stop.FmtTextKit
namespace Go.Proofs.YteccbmopijdibaaFmt
open Go.ChangeShapes Go.WideShapes Go.ChangeAt Go.RowKit
set_option linter.unusedVariables false
set_option maxRecDepth 100000
set_option maxHeartbeats 2000000

open Go.Extern
theorem decode_lt (s : ByteArray) (pos : Nat) (ha : (s.get! pos).toNat < 128) : Utf8.decode s pos = ((s.get! pos).toNat, 1) := by
  unfold Utf8.decode
  simp [ha]

theorem arr_get (b : List UInt8) (i : Nat) (h : i < b.length) : (FmtText.arr b).get! i = b[i] := by
  simp [FmtText.arr, ByteArray.get!, h]

theorem arr_size (b : List UInt8) : (FmtText.arr b).size = b.length := by simp [FmtText.arr, ByteArray.size]

theorem quoteFrom_ascii (b : List UInt8) (ha : ∀ c ∈ b, c.toNat < 128) : ∀ (n i : Nat), n + i = b.length → FmtText.quoteFrom 34 false (FmtText.arr b) n i = (b.drop i).flatMap (fun c => FmtText.escRune 34 false c.toNat)
  | 0, i, h => by
    rw [List.drop_eq_nil_of_le (by omega)]; rfl
  | n + 1, i, h => by
    have hi : i < b.length := by omega
    have hc : (FmtText.arr b).get! i = b[i] := arr_get b i hi
    have h1 : (b[i]).toNat < 128 := ha _ (List.getElem_mem hi)
    unfold FmtText.quoteFrom
    rw [if_pos (by rw [arr_size]; exact hi), decode_lt _ _ (by rw [hc]; exact h1), hc, quoteFrom_ascii b ha n (i + 1) (by omega), List.drop_eq_getElem_cons hi, List.flatMap_cons]
    have h2 : ¬ ((b[i].toNat, 1).snd == 1 && (b[i].toNat, 1).fst == 0xFFFD) = true := by simp; omega
    rw [if_neg h2]

theorem quote_ascii (b : List UInt8) (ha : ∀ c ∈ b, c.toNat < 128) : FmtText.quote false b = 34 :: (b.flatMap (fun c => FmtText.escRune 34 false c.toNat) ++ [34]) := by
  unfold FmtText.quote
  rw [quoteFrom_ascii b ha b.length 0 (by omega), List.drop_zero]

def hxd (n : Nat) : UInt8 := UInt8.ofNat (if n < 10 then 48 + n else 87 + n)
def mh (c : Nat) : List UInt8 :=
  if c = 7 then [92, 97] else if c = 8 then [92, 98] else if c = 12 then [92, 102] else if c = 10 then [92, 110] else if c = 13 then [92, 114] else if c = 9 then [92, 116] else if c = 11 then [92, 118]
  else if c = 92 then [92, 92] else if c = 34 then [92, 34] else if c < 32 ∨ c = 127 then [92, 120, hxd (c / 16), hxd (c % 16)] else [UInt8.ofNat c]
theorem hex2_all : ((List.range 128).all fun c => FmtText.hexDigits c 2 == [hxd (c / 16), hxd (c % 16)]) = true := by decide +kernel
theorem enc_all : ((List.range 128).all fun c => (Utf8.encode c).data.toList == [UInt8.ofNat c]) = true := by decide +kernel
theorem esc_mh (c : Nat) (h : c < 128) : FmtText.escRune 34 false c = mh c := by
  have h1 : FmtText.hexDigits c 2 = [hxd (c / 16), hxd (c % 16)] := by simpa using List.all_eq_true.1 hex2_all c (List.mem_range.2 h)
  have h2 : (Utf8.encode c).data.toList = [UInt8.ofNat c] := by simpa using List.all_eq_true.1 enc_all c (List.mem_range.2 h)
  have h3 : FmtText.isPrint c = decide (32 ≤ c ∧ c < 127) := by
    unfold FmtText.isPrint
    rw [if_pos (by omega)]
    rw [Bool.eq_iff_iff]
    simp
    omega
  unfold FmtText.escRune mh
  rw [h1, h2, h3]
  clear h1 h2 h3
  simp only [beq_iff_eq, Bool.or_eq_true, decide_eq_true_eq, Bool.false_eq_true, if_false]
  by_cases a1 : c = 34
  · subst a1; rfl
  by_cases a2 : c = 92
  · subst a2; rfl
  rw [if_neg (by omega : ¬ (c = 34 ∨ c = 92))]
  by_cases a3 : 32 ≤ c ∧ c < 127
  · rw [if_pos a3, if_neg (by omega : ¬ c = 7), if_neg (by omega : ¬ c = 8), if_neg (by omega : ¬ c = 12), if_neg (by omega : ¬ c = 10), if_neg (by omega : ¬ c = 13), if_neg (by omega : ¬ c = 9), if_neg (by omega : ¬ c = 11), if_neg a2, if_neg a1, if_neg (by omega : ¬ (c < 32 ∨ c = 127))]
  · rw [if_neg a3, if_neg a2, if_neg a1, if_pos (by omega : c < 32 ∨ c = 127), if_pos (by omega : c < 32 ∨ c = 127)]
theorem flat_mh : ∀ l : List UInt8, (∀ c ∈ l, c.toNat < 128) → l.flatMap (fun c => FmtText.escRune 34 false c.toNat) = l.flatMap (fun c => mh c.toNat)
  | [], _ => by rw [List.flatMap_nil, List.flatMap_nil]
  | a :: l, h => by rw [List.flatMap_cons, List.flatMap_cons, esc_mh _ (h a (by simp)), flat_mh l (fun c hc => h c (by simp [hc]))]
theorem quote_mh (b : List UInt8) (ha : ∀ c ∈ b, c.toNat < 128) : FmtText.quote false b = 34 :: (b.flatMap (fun c => mh c.toNat) ++ [34]) := by
  rw [quote_ascii b ha, flat_mh b ha]
theorem mh_len (c : Nat) : (mh c).length ≤ 4 := by
  unfold mh
  repeat' split
  all_goals simp
/-- What the model writes. -/
def mbody (b : List UInt8) : List UInt8 := b.flatMap fun c => mh c.toNat
theorem mbody_len : ∀ b : List UInt8, (mbody b).length ≤ 4 * b.length
  | [] => by simp [mbody]
  | a :: l => by
    have h1 := mbody_len l
    have h2 := mh_len a.toNat
    simp only [mbody, List.flatMap_cons, List.length_append, List.length_cons] at h1 ⊢
    omega
theorem mbody_snoc (b : List UInt8) (c : UInt8) : mbody (b ++ [c]) = mbody b ++ mh c.toNat := by simp [mbody]
theorem mbody_take (b : List UInt8) (i : Nat) (h : i < b.length) : mbody (b.take (i + 1)) = mbody (b.take i) ++ mh (b[i]).toNat := by
  rw [List.take_add_one, List.getElem?_eq_getElem h]
  exact mbody_snoc _ _
/-- The help text of a tag that is not empty. -/
def helpT (b : List UInt8) : List UInt8 := 34 :: (mbody b ++ [34, 32, 116, 97, 103])
theorem helpT_quote (b : List UInt8) (ha : ∀ c ∈ b, c.toNat < 128) : FmtText.quote false b ++ [32, 116, 97, 103] = helpT b := by
  rw [quote_mh b ha, helpT, mbody]
  simp

end Go.Proofs.YteccbmopijdibaaFmt
