import Derived.Test.YtmbbabikbmkjpabKit
import Derived.Test.YtmbbabikbmkjpabRec
import Derived.Test.YtmbbabikbmkjpabAs
namespace Go.Proofs.Ytmbbabikbmkjpab.fnToBooleanSoundAgainstJSTruthiness
open Go.ChangeShapes Go.WideShapes Go.ChangeAt Go.RowKit
set_option linter.unusedVariables false
set_option maxRecDepth 100000
set_option maxHeartbeats 2000000

/-- How a number stands to zero and to itself. -/
theorem float_cases (f : Nat) : (FloatKind.f64.format.order f 0 = none ∧ FloatKind.f64.format.order f f = none) ∨ (FloatKind.f64.format.order f 0 = some .eq ∧ FloatKind.f64.format.order f f = some .eq) ∨
    (FloatKind.f64.format.order f 0 = some .lt ∧ FloatKind.f64.format.order f f = some .eq) ∨ (FloatKind.f64.format.order f 0 = some .gt ∧ FloatKind.f64.format.order f f = some .eq) := by
  obtain ⟨p, h0⟩ : ∃ p, FloatKind.f64.format.read 0 = .number false 0 p := ⟨_, rfl⟩
  unfold Ieee.Format.order
  rw [h0]
  cases h : FloatKind.f64.format.read f with
  | nan a b => exact .inl ⟨rfl, rfl⟩
  | infinity s =>
    cases s
    · exact .inr (.inr (.inr ⟨rfl, rfl⟩))
    · exact .inr (.inr (.inl ⟨rfl, rfl⟩))
  | number s m i =>
    have e : Ieee.Datum.order (.number s m i) (.number s m i) = some .eq := by
      simp [Ieee.Datum.order]
    rw [e]
    obtain ⟨c, hc⟩ : ∃ c, Ieee.Datum.order (.number s m i) (.number false 0 p) = some c := ⟨_, rfl⟩
    rw [hc]
    cases c
    · exact .inr (.inr (.inl ⟨rfl, rfl⟩))
    · exact .inr (.inl ⟨rfl, rfl⟩)
    · exact .inr (.inr (.inr ⟨rfl, rfl⟩))

/-- Truth: 1, falsehood: 0, unknown: -1. -/
def numT (f : Nat) : Int := if FloatKind.f64.format.order f 0 = some .lt ∨ FloatKind.f64.format.order f 0 = some .gt then 1 else 0
def tNot (t : Int) : Int := if t = -1 then -1 else if t = 1 then 0 else 1
def tOr (a b : Int) : Int := if a = 1 ∨ b = 1 then 1 else if a = 0 ∧ b = 0 then 0 else -1
def tAnd (a b : Int) : Int := if a = 0 ∨ b = 0 then 0 else if a = 1 ∧ b = 1 then 1 else -1
def tCond (c y n : Int) : Int := if c = 1 then y else if c = 0 then n else if y = n then y else -1

/-- An answer that, where it is one, is the value's truth. -/
def TB (t : Int) (w : World) (e : Ending) (w' : World) : Prop := ∃ (b : Bool) (s : Int) (ok : Bool), e = .returned (.tuple #[.bool b, .int .u8 s, .bool ok]) ∧ w = w' ∧ (ok = true → t = if b = true then 1 else 0)

def ptr (u : Nat) : Value := .pointer (some ⟨u, 0, none⟩)

theorem leaf_false (U : Nat) (v : Value) (w : World) (h : U = 89 ∨ U = 90) : Calls Try.prog 10 #[.iface U v] w (TB 0 w) := by
  rcases h with rfl | rfl <;> as_aux_lemma =>
    go_enter Try.func10, Try.ntmps10
    go_wp2_with fail
    go_ret3
    exact ⟨_, _, _, rfl, rfl, fun _ => rfl⟩
theorem leaf_true (U : Nat) (v : Value) (w : World) (h : U = 108 ∨ U = 110 ∨ U = 111) : Calls Try.prog 10 #[.iface U v] w (TB 1 w) := by
  rcases h with rfl | rfl | rfl <;> as_aux_lemma =>
    go_enter Try.func10, Try.ntmps10
    go_wp2_with fail
    go_ret3
    exact ⟨_, _, _, rfl, rfl, fun _ => rfl⟩
theorem leaf_none (U : Nat) (t : Int) (v : Value) (w : World) (h : U = 246 ∨ U = 85) : Calls Try.prog 10 #[.iface U v] w (TB t w) := by
  rcases h with rfl | rfl <;> as_aux_lemma =>
    go_enter Try.func10, Try.ntmps10
    go_wp2_with fail
    go_ret3
    exact ⟨_, _, _, rfl, rfl, fun h => by cases h⟩
theorem leaf_bool (u : Nat) (b : Bool) (w : World) (h : w.cell? ⟨u, 0, none⟩ = some (.bool b)) : Calls Try.prog 10 #[.iface 91 (.pointer (some ⟨u, 0, none⟩))] w (TB (if b = true then 1 else 0) w) := by
  cases b <;> as_aux_lemma =>
    go_enter Try.func10, Try.ntmps10
    go_wp2_with fail
    go_ret3
    exact ⟨_, _, _, rfl, rfl, fun _ => rfl⟩
theorem isnan19 (f : Nat) (b : Bool) (w : World) (h : FloatKind.f64.format.order f f = if b = true then none else some .eq) : Calls Try.prog 19 #[.float .f64 f] w fun e w' => e = .returned (.bool b) ∧ w = w' := by
  cases b
  · simp only [if_false, Bool.false_eq_true] at h
    go_enter Try.func19, Try.ntmps19
    go_wp2_with fail
    go_ret
    exact ⟨ret_bool (by first | rfl | (rw [h]; rfl)), rfl⟩
  · simp only [if_true] at h
    go_enter Try.func19, Try.ntmps19
    go_wp2_with fail
    go_ret
    exact ⟨ret_bool (by first | rfl | (rw [h]; rfl)), rfl⟩
theorem leaf_num (u f : Nat) (w : World) (h : w.cell? ⟨u, 0, none⟩ = some (.float .f64 f)) : Calls Try.prog 10 #[.iface 94 (.pointer (some ⟨u, 0, none⟩))] w (TB (numT f) w) := by
  rcases float_cases f with ⟨h1, h2⟩ | ⟨h1, h2⟩ | ⟨h1, h2⟩ | ⟨h1, h2⟩
  · have e : numT f = 0 := by simp [numT, h1]
    rw [e]
    have hn := fun W => isnan19 f true W (by rw [h2]; rfl)
    have e1 : (FloatKind.f64.format.order f 0 != some .eq) = true := by rw [h1]; rfl
    clear h1 h2 e
    go_enter Try.func10, Try.ntmps10
    go_wp2_with fail
    refine (hn _).mono ?_
    rintro e w1 ⟨rfl, rfl⟩
    go_wp2_with fail
    go_ret3
    exact ⟨_, _, _, rfl, rfl, fun _ => rfl⟩
  · have e : numT f = 0 := by simp [numT, h1]
    rw [e]
    have e1 : (FloatKind.f64.format.order f 0 != some .eq) = false := by rw [h1]; rfl
    clear h1 h2 e
    go_enter Try.func10, Try.ntmps10
    go_wp2_with fail
    go_ret3
    exact ⟨_, _, _, rfl, rfl, fun _ => rfl⟩
  · have e : numT f = 1 := by simp [numT, h1]
    rw [e]
    have hn := fun W => isnan19 f false W (by rw [h2]; rfl)
    have e1 : (FloatKind.f64.format.order f 0 != some .eq) = true := by rw [h1]; rfl
    clear h1 h2 e
    go_enter Try.func10, Try.ntmps10
    go_wp2_with fail
    refine (hn _).mono ?_
    rintro e w1 ⟨rfl, rfl⟩
    go_wp2_with fail
    go_ret3
    exact ⟨_, _, _, rfl, rfl, fun _ => rfl⟩
  · have e : numT f = 1 := by simp [numT, h1]
    rw [e]
    have hn := fun W => isnan19 f false W (by rw [h2]; rfl)
    have e1 : (FloatKind.f64.format.order f 0 != some .eq) = true := by rw [h1]; rfl
    clear h1 h2 e
    go_enter Try.func10, Try.ntmps10
    go_wp2_with fail
    refine (hn _).mono ?_
    rintro e w1 ⟨rfl, rfl⟩
    go_wp2_with fail
    go_ret3
    exact ⟨_, _, _, rfl, rfl, fun _ => rfl⟩
theorem leaf_str0 (u : Nat) (w : World) (h : w.cell? ⟨u, 0, none⟩ = some (.slice none 0 0)) : Calls Try.prog 10 #[.iface 103 (.pointer (some ⟨u, 0, none⟩))] w (TB 0 w) := by
  go_enter Try.func10, Try.ntmps10
  go_wp2_with fail
  go_ret3
  exact ⟨_, _, _, rfl, rfl, fun _ => rfl⟩
theorem leaf_str1 (u : Nat) (a : Option Addr) (w : World) (h : w.cell? ⟨u, 0, none⟩ = some (.slice a 1 1)) : Calls Try.prog 10 #[.iface 103 (.pointer (some ⟨u, 0, none⟩))] w (TB 1 w) := by
  go_enter Try.func10, Try.ntmps10
  go_wp2_with fail
  go_ret3
  exact ⟨_, _, _, rfl, rfl, fun _ => rfl⟩

end Go.Proofs.Ytmbbabikbmkjpab.fnToBooleanSoundAgainstJSTruthiness
