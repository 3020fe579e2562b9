import Derived.Test.YtpbajadomgdajaaDoorKit
import Derived.Test.YtpbajadomgdajaaDoorGnP
import Derived.Test.YtpbajadomgdajaaDoorRec
import Derived.Laws.Strings3
namespace Go.Proofs.YtpbajadomgdajaaDoor
open Go.ChangeShapes Go.WideShapes Go.ChangeAt Go.RowKit
set_option linter.unusedVariables false
set_option maxRecDepth 100000
set_option maxHeartbeats 2000000

theorem letter11 (c : Nat) (W : World) : Calls Tryd.prog 11 #[.int .u8 c] W fun e W' => e = .returned (.bool (isL c)) ∧ W' = W := by
  by_cases h1 : (97 : Int) ≤ c <;> by_cases h2 : (c : Int) ≤ 122 <;> by_cases h3 : (65 : Int) ≤ c <;> by_cases h4 : (c : Int) ≤ 90 <;>
  · go_enter Tryd.func11, Tryd.ntmps11
    go_wp2
    go_ret
    exact ⟨by congr 2; simp [isL]; omega, rfl⟩
theorem alnum12 (c : Nat) (W : World) : Calls Tryd.prog 12 #[.int .u8 c] W fun e W' => e = .returned (.bool (isL c || isD c)) ∧ W' = W := by
  cases hl : isL c with
  | true =>
    go_enter Tryd.func12, Tryd.ntmps12
    go_wp2_with fail
    refine (letter11 c W).mono ?_
    rintro e w1 ⟨rfl, rfl⟩
    rw [hl]
    go_wp2
    go_ret
    exact ⟨rfl, rfl⟩
  | false =>
    have fin : ∀ (b : Bool), isD c = b → (Calls Tryd.prog 12 #[.int .u8 c] W fun e W' => e = .returned (.bool b) ∧ W' = W) := by
      intro b hd
      cases b with
      | true =>
        have hd' : 48 ≤ c ∧ c ≤ 57 := by simpa [isD] using hd
        have h1 : (48 : Int) ≤ c := by omega
        have h2 : (c : Int) ≤ 57 := by omega
        go_enter Tryd.func12, Tryd.ntmps12
        go_wp2_with fail
        refine (letter11 c W).mono ?_
        rintro e w1 ⟨rfl, rfl⟩
        rw [hl]
        go_wp2
        go_ret
        exact ⟨rfl, rfl⟩
      | false =>
        have hd' : ¬ (48 ≤ c ∧ c ≤ 57) := by
          intro h
          simp [isD] at hd
          omega
        by_cases h1 : (48 : Int) ≤ c
        · have h2 : ¬ (c : Int) ≤ 57 := by omega
          go_enter Tryd.func12, Tryd.ntmps12
          go_wp2_with fail
          refine (letter11 c W).mono ?_
          rintro e w1 ⟨rfl, rfl⟩
          rw [hl]
          go_wp2
          go_ret
          exact ⟨by first | rfl | (show Ending.returned (.bool (decide ((c : Int) ≤ 57))) = _; rw [decide_eq_false (show ¬ (c : Int) ≤ 57 by omega)]), rfl⟩
        · go_enter Tryd.func12, Tryd.ntmps12
          go_wp2_with fail
          refine (letter11 c W).mono ?_
          rintro e w1 ⟨rfl, rfl⟩
          rw [hl]
          go_wp2
          go_ret
          exact ⟨rfl, rfl⟩
    rw [Bool.false_or]
    exact fin _ rfl
def isS (c : Nat) : Bool := c == 47 || c == 92 || c == 46
theorem sep8 (c : Nat) (W : World) : Calls Tryd.prog 8 #[.int .u8 c] W fun e W' => e = .returned (.bool (isS c)) ∧ W' = W := by
  by_cases h1 : c = 47
  · subst h1
    go_enter Tryd.func8, Tryd.ntmps8
    go_wp2
    go_ret
    exact ⟨rfl, rfl⟩
  by_cases h2 : c = 92
  · subst h2
    go_enter Tryd.func8, Tryd.ntmps8
    go_wp2
    go_ret
    exact ⟨rfl, rfl⟩
  by_cases h3 : c = 46
  · subst h3
    go_enter Tryd.func8, Tryd.ntmps8
    go_wp2
    go_ret
    exact ⟨rfl, rfl⟩
  have b1 : ((c : Int) == 47) = false := beq_false_of_ne (by omega)
  have b2 : ((c : Int) == 92) = false := beq_false_of_ne (by omega)
  have b3 : ((c : Int) == 46) = false := beq_false_of_ne (by omega)
  have g1 : ¬ (c : Int) = 47 := by omega
  have g2 : ¬ (c : Int) = 92 := by omega
  have g3 : ¬ (c : Int) = 46 := by omega
  go_enter Tryd.func8, Tryd.ntmps8
  go_wp2
  go_ret
  exact ⟨by first | (congr 2; simp [isS, h1, h2, h3]; done) | simp [isS, h1, h2, h3], rfl⟩
theorem index_at (s : ByteArray) (i : Nat) (h : i < s.size) : ∀ W : World, (Instr.index 9 (.string s) (.int .i64 (i : Int))).run Tryd.prog W = .ok (.int .u8 (((s[i]'h).toNat : Nat) : Int)) W := fun W => by
  rw [run_index_string W 9 s .i64 i Tryd.underlying9, dif_pos ⟨by omega, by omega⟩]
  simp
/-- A text without separators. -/
def NoSep (s : ByteArray) : Prop := ∀ i (h : i < s.size), isS (s[i]'h).toNat = false
def SepIs (s : ByteArray) (W : World) (e : Ending) (W' : World) : Prop := W' = W ∧ ((e = .returned (.bool true)) ∨ (e = .returned (.bool false) ∧ NoSep s))
theorem has5 (s : ByteArray) (hs : (s.size : Int) ≤ 1048576) (W : World) : Calls Tryd.prog 5 #[.string s] W (SepIs s W) := by
  go_enter Tryd.func5, Tryd.ntmps5
  go_wp2_with fail
  go_loopw [3] (fun v2 wr => ∃ i : Nat, i ≤ s.size ∧ v2 = .int .i64 i ∧ (∀ j (h : j < s.size), j < i → isS (s[j]'h).toNat = false) ∧ wr = W) (fun v2 _ => s.size - (intOf v2).toNat)
  case atStart => exact ⟨0, by omega, rfl, fun j _ h => by omega, rfl⟩
  case round =>
    obtain ⟨i, hil, rfl, hlow, rfl⟩ := hrel
    have HL := Lib.hid hlow
    clear hlow
    by_cases hlt : i < s.size
    · have hlt' : (i : Int) < (s.size : Int) := by omega
      have hidx := index_at s i hlt
      obtain ⟨c, hc⟩ : ∃ c : Nat, c = (s[i]'hlt).toNat := ⟨_, rfl⟩
      rw [← hc] at hidx
      have HC := Lib.hid hc
      clear hc
      go_wp2_with fail
      refine (sep8 c _).mono ?_
      rintro e w1 ⟨rfl, rfl⟩
      cases hb : isS c with
      | true =>
        go_wp2_with fail
        go_ret
        exact ⟨rfl, .inl rfl⟩
      | false =>
        go_wp2_with fail
        go_roundw
        case rel =>
          refine ⟨i + 1, by omega, by go_num, fun j hj hji => ?_, by first | rfl | trivial⟩
          by_cases e : j = i
          · subst e; rw [← HC.out]; exact hb
          · exact HL.out j hj (by omega)
        case measure => simp [intOf]; omega
    · have hlt' : ¬ (i : Int) < (s.size : Int) := by omega
      go_wp2_with fail
      go_ret
      exact ⟨rfl, .inr ⟨rfl, fun j hj => HL.out j hj (by omega)⟩⟩
theorem zz4 (x : ByteArray) (W : World) : Calls Tryd.prog 4 #[.string x] W fun e W' => ∃ r, e = .returned (.bool r) ∧ W = W' := by
  go_enter Tryd.func4, Tryd.ntmps4
  go_wp2 <;> (go_ret; first | exact ⟨_, rfl, rfl⟩ | exact rfl)

end Go.Proofs.YtpbajadomgdajaaDoor
