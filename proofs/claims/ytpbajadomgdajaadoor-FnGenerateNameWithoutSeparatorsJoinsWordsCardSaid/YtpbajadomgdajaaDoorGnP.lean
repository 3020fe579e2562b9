import Derived.Test.YtpbajadomgdajaaDoorKit
import Derived.Lib.DecodeN
import Derived.Lib.TrimUEq
import Derived.Laws.RangeAny
namespace Go.Proofs.YtpbajadomgdajaaDoor
open Go.ChangeShapes Go.WideShapes Go.ChangeAt Go.RowKit
set_option linter.unusedVariables false
set_option maxRecDepth 100000
set_option maxHeartbeats 2000000

/-- An ASCII letter; a digit. -/
def isL (c : Nat) : Bool := (97 ≤ c && c ≤ 122) || (65 ≤ c && c ≤ 90)
def isD (c : Nat) : Bool := 48 ≤ c && c ≤ 57
/-- The state of the making of a name: its bytes, whether a gap is due. -/
abbrev Gs := List UInt8 × Bool
/-- The bytes, the gap written. -/
def gap (s : Gs) : List UInt8 := if s.2 then s.1 ++ [95] else s.1
def gstep (s : Gs) (c : Nat) : Gs := if isL c || (!s.1.isEmpty && isD c) then (gap s ++ [UInt8.ofNat c], false) else if s.1.isEmpty then s else (s.1, true)
def gfold (l : List UInt8) : Gs := l.foldl (fun s c => gstep s c.toNat) ([], false)
theorem gfold_snoc (l : List UInt8) (c : UInt8) : gfold (l ++ [c]) = gstep (gfold l) c.toNat := by simp [gfold]
theorem gfold_take (b : List UInt8) (i : Nat) (h : i < b.length) : gfold (b.take (i + 1)) = gstep (gfold (b.take i)) (b[i]).toNat := by
  rw [List.take_add_one, List.getElem?_eq_getElem h]
  exact gfold_snoc _ _
/-- What is no letter and no digit. -/
theorem gstep_other (s : Gs) (c : Nat) (hl : isL c = false) (hd : isD c = false) : gstep s c = if s.1.isEmpty then s else (s.1, true) := by simp [gstep, hl, hd]
theorem high_other (c : Nat) (h : 128 ≤ c) : isL c = false ∧ isD c = false := by
  constructor <;> simp [isL, isD] <;> omega
/-- Bytes from 128 on, one after another: as one. -/
def dirty (s : Gs) : Gs := if s.1.isEmpty then s else (s.1, true)
theorem dirty_dirty (s : Gs) : dirty (dirty s) = dirty s := by
  unfold dirty
  by_cases h : s.1.isEmpty = true
  · simp [h]
  · simp [h]
theorem gfold_high (b : List UInt8) (i : Nat) : ∀ (k : Nat), 0 < k → i + k ≤ b.length → (∀ j (hj : j < b.length), i ≤ j → j < i + k → 128 ≤ (b[j]).toNat) → gfold (b.take (i + k)) = dirty (gfold (b.take i))
  | 0, h, _, _ => by omega
  | 1, _, hk, hh => by
    have hi : i < b.length := by omega
    rw [gfold_take b i hi]
    obtain ⟨h1, h2⟩ := high_other _ (hh i hi (Nat.le_refl _) (by omega))
    rw [gstep_other _ _ h1 h2]; rfl
  | k + 2, _, hk, hh => by
    have hi : i + (k + 1) < b.length := by omega
    rw [show i + (k + 2) = (i + (k + 1)) + 1 by omega, gfold_take b (i + (k + 1)) hi]
    obtain ⟨h1, h2⟩ := high_other _ (hh (i + (k + 1)) hi (by omega) (by omega))
    rw [gstep_other _ _ h1 h2, gfold_high b i (k + 1) (by omega) (by omega) (fun j hj h3 h4 => hh j hj h3 (by omega))]
    exact dirty_dirty _
/-- The name that is made of these bytes. -/
def gname (b : List UInt8) : List UInt8 := if (gfold b).1.isEmpty then [95] else (gfold b).1
/-- Before the first letter nothing is made. -/
theorem gfold_none (b : List UInt8) : ∀ i, i ≤ b.length → (∀ j (hj : j < b.length), j < i → isL (b[j]).toNat = false) → gfold (b.take i) = ([], false)
  | 0, _, _ => by simp [gfold]
  | i + 1, h, hn => by
    have hi : i < b.length := by omega
    rw [gfold_take b i hi, gfold_none b i (by omega) (fun j hj h2 => hn j hj (by omega))]
    simp [gstep, hn i hi (by omega)]
theorem gstep_alnum (s : Gs) (c : Nat) (h : isL c = true ∨ (isD c = true ∧ s.1 ≠ [])) : gstep s c = (gap s ++ [UInt8.ofNat c], false) := by
  unfold gstep
  rw [if_pos]
  rcases h with h | ⟨h, h2⟩
  · simp [h]
  · simp [h, h2]
theorem decN_bytes (n b0 b1 b2 b3 j : Nat) (h0 : 128 ≤ b0) (hn : 1 ≤ n) (hj : j < (Lib.decodeN n b0 b1 b2 b3).2) : j < n ∧ (j = 0 ∨ (j = 1 ∧ b1 / 64 = 2) ∨ (j = 2 ∧ b2 / 64 = 2) ∨ (j = 3 ∧ b3 / 64 = 2)) := by
  revert hj
  unfold Lib.decodeN
  rw [if_neg (by omega)]
  repeat' split
  all_goals (intro hj; simp only at hj; omega)
theorem dec_bytes (s : ByteArray) (i : Nat) (hi : i < s.size) (h : 128 ≤ (s.get! i).toNat) (j : Nat) (hj : j < (Utf8.decode s i).2) : i + j < s.size ∧ 128 ≤ (s.get! (i + j)).toNat := by
  rw [Lib.decode_at] at hj
  obtain ⟨h1, h2⟩ := decN_bytes _ _ _ _ _ j h (by omega) hj
  refine ⟨by omega, ?_⟩
  rcases h2 with rfl | ⟨rfl, h2⟩ | ⟨rfl, h2⟩ | ⟨rfl, h2⟩
  · exact h
  · omega
  · omega
  · omega
/-- The last rune of bytes without separators is none, and it is not empty. -/
theorem last_nosep (l : List UInt8) (hn : ∀ c ∈ l, c.toNat ≠ 47 ∧ c.toNat ≠ 92) (i : Nat) (hi : 0 < i) (hil : i ≤ l.length) :
    (Lib.decodeLastL (l.take i)).1 ≠ 47 ∧ (Lib.decodeLastL (l.take i)).1 ≠ 92 ∧ 1 ≤ (Lib.decodeLastL (l.take i)).2 ∧ (Lib.decodeLastL (l.take i)).2 ≤ i := by
  have hm : ∀ j, j < l.length → (l.getD j 0).toNat ≠ 47 ∧ (l.getD j 0).toNat ≠ 92 := fun j hj => by
    have : l.getD j 0 = l[j] := by simp [List.getD, hj]
    rw [this]
    exact hn _ (List.getElem_mem hj)
  rcases Lib.last_cases l i hi hil with ⟨h1, h2⟩ | ⟨h1, h2⟩ | ⟨h1, st, h3, h2, h4⟩
  · rw [h2]
    have := hm (i - 1) (by omega)
    exact ⟨this.1, this.2, Nat.le_refl _, hi⟩
  · rw [h2]
    exact ⟨by decide, by decide, Nat.le_refl _, hi⟩
  · rw [h2]
    have hlen : ((l.take i).drop st).length = i - st := by rw [List.length_drop, List.length_take]; omega
    cases hd : (l.take i).drop st with
    | nil => rw [hd] at hlen; simp at hlen; omega
    | cons a t =>
      rw [hd] at h4
      have ha : a ∈ l := List.mem_of_mem_take (List.mem_of_mem_drop (hd ▸ List.mem_cons_self))
      by_cases ha2 : a.toNat < 128
      · have e : Lib.decodeL (a :: t) = (a.toNat, 1) := by
          unfold Lib.decodeL Utf8.decode
          simp [ByteArray.get!, ha2]
        rw [e] at h4 ⊢
        exact ⟨(hn a ha).1, (hn a ha).2, Nat.le_refl _, hi⟩
      · have hh := decode_high ⟨(a :: t).toArray⟩ 0 (by simp [ByteArray.size]) (by show 128 ≤ a.toNat; omega)
        refine ⟨?_, ?_, hh.2, by omega⟩
        · have := hh.1; unfold Lib.decodeL; omega
        · have := hh.1; unfold Lib.decodeL; omega

end Go.Proofs.YtpbajadomgdajaaDoor
