import Derived.Test.YtfbjlgjlbndmkaaKit
import Derived.Test.YtfbjlgjlbndmkaaFcB
namespace Go.Proofs.Ytfbjlgjlbndmkaa
open Go.ChangeShapes Go.WideShapes Go.ChangeAt Go.RowKit
set_option linter.unusedVariables false
set_option maxRecDepth 100000
set_option maxHeartbeats 2000000

theorem str19 (p : Nat) (s : ByteArray) (w : World) (h : w.cell? ⟨p, 0, none⟩ = some (.string s)) : Calls Try.prog 19 #[.pointer (some ⟨p, 0, none⟩)] w fun e w' => e = .returned (.string s) ∧ w = w' := by
  go_enter Try.func19, Try.ntmps19
  go_wp2
  go_ret
  exact ⟨rfl, rfl⟩
/-- A regexp pointer: nil, or a block whose first cell is the empty text. -/
def RxAt (w : World) (x : Option Nat) : Prop := ∀ p, x = some p → w.cell? ⟨p, 0, none⟩ = some (.string ⟨#[]⟩)
def rxV (x : Option Nat) : Value := .pointer (x.map fun p => ⟨p, 0, none⟩)
theorem same16 (x y : Option Nat) (w : World) (hx : RxAt w x) (hy : RxAt w y) : Calls Try.prog 16 #[rxV x, rxV y] w fun e w' => e = .returned (.bool (x.isNone == y.isNone)) ∧ w = w' := by
  cases x with
  | none =>
    cases y with
    | none =>
      show Calls Try.prog 16 #[.pointer none, .pointer none] w _
      go_enter Try.func16, Try.ntmps16
      go_wp2
      go_ret
      exact ⟨rfl, rfl⟩
    | some q =>
      show Calls Try.prog 16 #[.pointer none, .pointer (some ⟨q, 0, none⟩)] w _
      go_enter Try.func16, Try.ntmps16
      go_wp2
      go_ret
      exact ⟨rfl, rfl⟩
  | some p =>
    cases y with
    | none =>
      show Calls Try.prog 16 #[.pointer (some ⟨p, 0, none⟩), .pointer none] w _
      go_enter Try.func16, Try.ntmps16
      go_wp2
      go_ret
      exact ⟨rfl, rfl⟩
    | some q =>
      have h1 := hx p rfl
      have h2 := hy q rfl
      show Calls Try.prog 16 #[.pointer (some ⟨p, 0, none⟩), .pointer (some ⟨q, 0, none⟩)] w _
      clear hx hy
      go_enter Try.func16, Try.ntmps16
      go_wp2_with (first | (go_at_call 19; (with_reducible refine (str19 _ _ _ h1).mono ?_); rintro e w' ⟨rfl, rfl⟩) | (go_at_call 19; (with_reducible refine (str19 _ _ _ h2).mono ?_); rintro e w' ⟨rfl, rfl⟩))
      go_ret
      exact ⟨rfl, rfl⟩

def eqL (n m : Nat) (S T : Nat → ByteArray) : Bool := n == m && (List.range n).all fun i => (S i).toList == (T i).toList
theorem eqL_no {n m : Nat} {S T : Nat → ByteArray} (h : n ≠ m) : eqL n m S T = false := by simp [eqL, h]
theorem eqL_diff {n m k : Nat} {S T : Nat → ByteArray} (hk : k < n) (h : ((S k).toList == (T k).toList) = false) : eqL n m S T = false := by
  unfold eqL
  rw [Bool.and_eq_false_iff]
  refine .inr ?_
  rw [Bool.eq_false_iff]
  intro ha
  have := List.all_eq_true.1 ha k (List.mem_range.2 hk)
  rw [h] at this
  cases this
theorem eqL_all {n : Nat} {S T : Nat → ByteArray} (h : ∀ i, i < n → ((S i).toList == (T i).toList) = true) : eqL n n S T = true := by
  unfold eqL
  rw [Bool.and_eq_true_iff]
  exact ⟨by simp, List.all_eq_true.2 fun i hi => h i (List.mem_range.1 hi)⟩

/-- The strings' cells of a slice, element by element. -/
def SC (w : World) (a : Option Addr) (n : Nat) (S : Nat → ByteArray) : Prop := ∀ i, i < n → ∃ x, a = some x ∧ w.cell? (x.add i) = some (.string (S i))
theorem sc_of {w : World} {a : Option Addr} {n cap : Nat} {S : Nat → ByteArray} (h : IsStrs w a n cap S) : SC w a n S := by
  intro i hi
  have := strs_cap h
  cases a with
  | none => have := (strs_nil h).1; omega
  | some x => exact ⟨x, rfl, (strs_cell h i (by omega)).1⟩

set_option maxHeartbeats 4000000 in
theorem arr17 (a b : Option Addr) (n c m d : Nat) (S T : Nat → ByteArray) (w : World) (hn : n ≤ 1048576) (hm : m ≤ 1048576) (ha : IsStrs w a n c S) (hb : IsStrs w b m d T) :
    Calls Try.prog 17 #[.slice a n c, .slice b m d] w fun e w' => e = .returned (.bool (eqL n m S T)) ∧ w = w' := by
  have HA := Lib.hid (sc_of ha)
  have HB := Lib.hid (sc_of hb)
  clear ha hb
  by_cases hnm : n = m
  · subst hnm
    go_enter Try.func17, Try.ntmps17
    go_wp2
    go_loop [14] (fun v => ∃ k : Nat, k ≤ n ∧ v = .int .i64 k ∧ ∀ i, i < k → ((S i).toList == (T i).toList) = true) (fun v => n - (intOf v).toNat)
    case atStart => exact ⟨0, Nat.zero_le _, rfl, fun i hi => by omega⟩
    case round =>
      obtain ⟨k, hk, rfl, hall⟩ := hrel
      have HX := Lib.hid hall
      clear hall
      by_cases hlt : k < n
      · obtain ⟨x, rfl, hx⟩ := HA.out k hlt
        obtain ⟨y, rfl, hy⟩ := HB.out k hlt
        cases hq : ((S k).toList == (T k).toList)
        · have HQ : Hid (eqL n n S T = false) := eqL_diff hlt hq
          go_wp2
          go_ret
          exact ⟨ret_bool HQ.out.symm, rfl⟩
        · have HQ := Lib.hid hq
          go_wp2
          go_round
          case rel => exact ⟨k + 1, by omega, by go_num, fun i hi => by
            by_cases e : i = k
            · subst e; exact HQ.out
            · exact HX.out i (by omega)⟩
          case measure => simp [intOf]; omega
      · obtain rfl : k = n := by omega
        go_wp2
        go_ret
        exact ⟨ret_bool (eqL_all HX.out).symm, rfl⟩
  · have HQ : Hid (eqL n m S T = false) := eqL_no hnm
    have hne : decide (n = m) = false := by simpa using hnm
    go_enter Try.func17, Try.ntmps17
    go_wp2
    go_ret
    exact ⟨ret_bool HQ.out.symm, rfl⟩

set_option maxHeartbeats 4000000 in
theorem lab15 (a b : Option Addr) (n c m d : Nat) (S T : Nat → ByteArray) (w : World) (hn : n ≤ 1048576) (hm : m ≤ 1048576) (ha : IsStrs w a n c S) (hb : IsStrs w b m d T) :
    Calls Try.prog 15 #[.slice a n c, .slice b m d] w fun e w' => e = .returned (.bool (eqL n m S T)) ∧ ∃ q, w' = w.drewN q := by
  have HA := Lib.hid (sc_of ha)
  have HB := Lib.hid (sc_of hb)
  clear ha hb
  by_cases hnm : n = m
  · subst hnm
    go_enter Try.func15, Try.ntmps15
    go_wp2
    go_loopw [5] (fun v wr => ∃ k q : Nat, k ≤ n ∧ v = .int .i64 k ∧ wr = w.drewN q ∧ ∀ i, i < k → ((S i).toList == (T i).toList) = true) (fun v _ => n - (intOf v).toNat)
    case atStart => exact ⟨0, 0, Nat.zero_le _, rfl, rfl, fun i hi => by omega⟩
    case round =>
      obtain ⟨k, q, hk, rfl, rfl, hall⟩ := hrel
      have HX := Lib.hid hall
      clear hall
      by_cases hlt : k < n
      · obtain ⟨x, rfl, hx⟩ := HA.out k hlt
        obtain ⟨y, rfl, hy⟩ := HB.out k hlt
        have hx' : ∀ j, (w.drewN j).cell? (x.add k) = some (.string (S k)) := fun _ => hx
        have hy' : ∀ j, (w.drewN j).cell? (y.add k) = some (.string (T k)) := fun _ => hy
        cases hq : ((S k).toList == (T k).toList)
        · have HQ : Hid (eqL n n S T = false) := eqL_diff hlt hq
          go_wp2
          go_quiet (fail)
          go_wp2
          go_ret
          exact ⟨ret_bool HQ.out.symm, q + nq, World.drewN_drewN ..⟩
        · have HQ := Lib.hid hq
          go_wp2
          go_quiet (fail)
          go_wp2
          go_roundw
          case rel => exact ⟨k + 1, q + nq, by omega, by go_num, rfl, fun i hi => by
            by_cases e : i = k
            · subst e; exact HQ.out
            · exact HX.out i (by omega)⟩
          case measure => simp [intOf]; omega
      · obtain rfl : k = n := by omega
        go_wp2
        go_ret
        exact ⟨ret_bool (eqL_all HX.out).symm, _, rfl⟩
  · have HQ : Hid (eqL n m S T = false) := eqL_no hnm
    have hne : decide (n = m) = false := by simpa using hnm
    go_enter Try.func15, Try.ntmps15
    go_wp2
    go_ret
    exact ⟨ret_bool HQ.out.symm, 0, rfl⟩

end Go.Proofs.Ytfbjlgjlbndmkaa
