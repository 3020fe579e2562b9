import Derived.Test.YtgefhkjidldjlabKit
namespace Go.Proofs.Ytgefhkjidldjlab.fnIsEvalOrArgumentsExactSet
open Go.ChangeShapes Go.WideShapes Go.ChangeAt Go.RowKit
set_option linter.unusedVariables false

theorem take_snoc (s : ByteArray) (k : Nat) (h : k < s.size) : s.data.toList.take (k + 1) = s.data.toList.take k ++ [s[k]] := by
  rw [List.take_succ_eq_append_getElem (by simpa using h)]; rfl

theorem same_ne (s t : ByteArray) (w : World) (hs : s.size ≤ maxLen) (ht : t.size ≤ maxLen) (hl : ¬ s.size = t.size) :
    Calls Try.prog 7 #[.string s, .string t] w fun e w' => e = .returned (.bool false) ∧ w = w' := by
  unfold maxLen at hs ht
  have h1 : ((s.size : Int) != (t.size : Int)) = true := by simp; omega
  go_enter Try.func7, Try.ntmps7
  go_wp2
  go_ret
  exact ⟨rfl, rfl⟩

theorem step_yes {s t : ByteArray} {k : Nat} (hs : k < s.size) (ht : k < t.size) (h : s.data.toList.take k = t.data.toList.take k)
    (e : (s[k].toNat : Int) = (t[k].toNat : Int)) : s.data.toList.take (k + 1) = t.data.toList.take (k + 1) := by
  rw [take_snoc s k hs, take_snoc t k ht, h]
  congr 2
  exact UInt8.toNat_inj.1 (by omega)

theorem step_no {s t : ByteArray} {k : Nat} (hs : k < s.size) (ht : k < t.size)
    (e : ¬ (s[k].toNat : Int) = (t[k].toNat : Int)) : decide (s.data.toList = t.data.toList) = false := by
  rw [decide_eq_false_iff_not]
  intro h
  apply e
  have h2 : s = t := by
    cases s; cases t; simp at h; rw [h]
  subst h2
  rfl

theorem same_eq (s t : ByteArray) (w : World) (hs : s.size ≤ maxLen) (hl : s.size = t.size) :
    Calls Try.prog 7 #[.string s, .string t] w fun e w' => e = .returned (.bool (decide (s.data.toList = t.data.toList))) ∧ ∃ q, w' = w.drewN q := by
  unfold maxLen at hs
  have h1 : ((s.size : Int) != (t.size : Int)) = false := by simp; omega
  have h3 : s.size ≤ t.size := by omega
  have h4 : t.size ≤ s.size := by omega
  clear hl
  go_enter Try.func7, Try.ntmps7
  go_wp2
  go_loopw [5] (fun v5 wr => ∃ k q : Nat, k ≤ s.size ∧ v5 = .int .i64 k ∧ s.data.toList.take k = t.data.toList.take k ∧ wr = w.drewN q) (fun v5 _ => s.size - (intOf v5).toNat)
  case atStart => exact ⟨0, 0, Nat.zero_le _, rfl, by simp, rfl⟩
  case round =>
    obtain ⟨k, q, hk, rfl, hr, rfl⟩ := hrel
    have HR := Lib.hid hr
    clear hr
    by_cases hlt : k < s.size
    · have hlt2 : k < t.size := by omega
      by_cases he : (s[k].toNat : Int) = (t[k].toNat : Int)
      · have hb : ((s[k].toNat : Int) != (t[k].toNat : Int)) = false := by simpa using he
        have HE := Lib.hid he
        clear he
        go_wp2
        go_quiet (fail)
        go_wp2
        go_roundw
        case rel => exact ⟨k + 1, _, by omega, by go_num, step_yes hlt hlt2 HR.out HE.out, rfl⟩
        case measure => simp [intOf]; omega
      · have hb : ((s[k].toNat : Int) != (t[k].toNat : Int)) = true := by simpa using he
        have HE := Lib.hid he
        clear he
        go_wp2
        go_quiet (fail)
        go_wp2
        go_ret
        exact ⟨ret_bool (by rw [step_no hlt hlt2 HE.out]), _, World.drewN_drewN _ _ _⟩
    · go_wp2
      go_ret
      refine ⟨ret_bool ?_, _, rfl⟩
      have h5 := HR.out
      rw [List.take_of_length_le (by simp; omega), List.take_of_length_le (by simp; omega)] at h5
      exact (decide_eq_true h5).symm

theorem zzb (s : ByteArray) (w : World) (hs : s.size ≤ 1048576) : Calls Try.prog 6 #[.string s] w fun e w' => e = .returned (.bool true) ∧ w = w' := by
  go_enter Try.func6, Try.ntmps6
  go_wp2
  go_ret
  exact ⟨rfl, rfl⟩

theorem zzb_no (s : ByteArray) (w : World) (hs' : s.size ≤ maxLen) (hs : 1048576 < s.size) : Calls Try.prog 6 #[.string s] w fun e w' => e = .returned (.bool false) ∧ w = w' := by
  unfold maxLen at hs'
  go_enter Try.func6, Try.ntmps6
  go_wp2
  go_ret
  exact ⟨rfl, rfl⟩

theorem toList_ne (s : ByteArray) (l : List UInt8) (h : s.size ≠ l.length) : (s.toList == l) = false := by
  rw [beq_eq_false_iff_ne]
  intro e
  apply h
  rw [ByteArray.toList_eq] at e
  have := congrArg List.length e
  simpa using this

theorem toList_is (s : ByteArray) (l : List UInt8) : (s.toList == l) = decide (s.data.toList = l) := by
  rw [ByteArray.toList_eq, Bool.eq_iff_iff]; simp

theorem walk (a0 : ByteArray) (w : World) (w0 : a0.size ≤ maxLen) :
    Calls Try.prog 3 #[.string a0] w fun e w' => e = .returned (.bool true) ∧ Below w.heap.size w w' := by
  by_cases h0 : 1048576 < a0.size
  · go_enter Try.func3, Try.ntmps3
    go_wp2_with (go_at_call 6; refine (zzb_no _ _ w0 h0).mono ?_; rintro e w' ⟨rfl, rfl⟩)
    go_ret
    exact ⟨rfl, by go_grown⟩
  · have h0' : a0.size ≤ 1048576 := by omega
    clear h0
    by_cases h4 : a0.size = 4
    · have H4 := Lib.hid h4
      have l1 : 4 ≤ a0.size := by omega
      have l2 : a0.size ≤ 4 := by omega
      have g9 : (a0.toList == [97, 114, 103, 117, 109, 101, 110, 116, 115]) = false := toList_ne _ _ (by rw [h4]; decide)
      have g4 := toList_is a0 [101, 118, 97, 108]
      clear h4
      obtain ⟨B, hB⟩ : ∃ B, decide (a0.data.toList = [101, 118, 97, 108]) = B := ⟨_, rfl⟩
      rw [hB] at g4
      have HB := Lib.hid hB
      clear hB
      cases B <;>
      · go_enter Try.func3, Try.ntmps3
        go_wp2_with (go_at_call 6; refine (zzb _ _ h0').mono ?_; rintro e w' ⟨rfl, rfl⟩)
        refine (same_eq _ _ _ w0 (by rw [H4.out]; rfl)).mono ?_
        rintro e w' ⟨rfl, q, rfl⟩
        simp only [HB.out]
        go_wp2
        go_ret
        exact ⟨rfl, below_drewN (Below.refl _ _) _⟩
    · by_cases h9 : a0.size = 9
      · have H9 := Lib.hid h9
        have l1 : 9 ≤ a0.size := by omega
        have l2 : a0.size ≤ 9 := by omega
        have g4 : (a0.toList == [101, 118, 97, 108]) = false := toList_ne _ _ (by rw [h9]; decide)
        have g9 := toList_is a0 [97, 114, 103, 117, 109, 101, 110, 116, 115]
        clear h9 h4
        obtain ⟨B, hB⟩ : ∃ B, decide (a0.data.toList = [97, 114, 103, 117, 109, 101, 110, 116, 115]) = B := ⟨_, rfl⟩
        rw [hB] at g9
        have HB := Lib.hid hB
        clear hB
        cases B <;>
        · go_enter Try.func3, Try.ntmps3
          go_wp2_with (go_at_call 6; refine (zzb _ _ h0').mono ?_; rintro e w' ⟨rfl, rfl⟩)
          refine (same_eq _ _ _ w0 (by rw [H9.out]; rfl)).mono ?_
          rintro e w' ⟨rfl, q, rfl⟩
          simp only [HB.out]
          go_wp2
          go_ret
          exact ⟨rfl, below_drewN (Below.refl _ _) _⟩
      · have g4 : (a0.toList == [101, 118, 97, 108]) = false := toList_ne _ _ (by simpa using h4)
        have g9 : (a0.toList == [97, 114, 103, 117, 109, 101, 110, 116, 115]) = false := toList_ne _ _ (by simpa using h9)
        have e4 : ((a0.size : Int) == 4) = false := by simp; omega
        have e9 : ((a0.size : Int) == 9) = false := by simp; omega
        clear h4 h9
        go_enter Try.func3, Try.ntmps3
        go_wp2_with (first | (go_at_call 6; refine (zzb _ _ h0').mono ?_; rintro e w' ⟨rfl, rfl⟩) | go_in)
        go_ret
        exact ⟨rfl, by go_grown⟩

end Go.Proofs.Ytgefhkjidldjlab.fnIsEvalOrArgumentsExactSet
