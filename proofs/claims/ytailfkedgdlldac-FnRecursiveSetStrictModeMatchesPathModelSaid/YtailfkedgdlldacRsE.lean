import Derived.Test.YtailfkedgdlldacKit
import Derived.Test.YtailfkedgdlldacRsD
namespace Go.Proofs.Ytailfkedgdlldac
open Go.ChangeShapes Go.WideShapes Go.ChangeAt Go.RowKit
set_option linter.unusedVariables false
set_option maxRecDepth 100000
set_option maxHeartbeats 2000000

/-- Some bool comes back, true only if p; the world stands. -/
def SomeB (p : Prop) (w : World) (e : Ending) (w' : World) : Prop := ∃ b, e = .returned (.bool b) ∧ w = w' ∧ (b = true → p)

theorem zz19 (a1 : Option Addr) (n1 c1 : Nat) (a2 : Option Addr) (n2 c2 : Nat) (k : Int) (w : World) (h1 : n1 ≤ 9223372036854775807) (h2 : n2 ≤ 9223372036854775807) : Calls Try.prog 19 #[.slice a1 n1 c1, .slice a2 n2 c2, .int .u8 k] w (SomeB (n1 ≤ 1048576 ∧ n2 ≤ 1048576) w) := by
  by_cases h : n1 ≤ 1048576
  · by_cases h' : n2 ≤ 1048576
    · by_cases hs : n1 + n2 ≤ 1048576
      · go_enter Try.func19, Try.ntmps19
        go_wp2
        go_ret
        exact ⟨_, rfl, rfl, fun _ => ⟨h, h'⟩⟩
      · go_enter Try.func19, Try.ntmps19
        go_wp2
        all_goals
          go_ret
          exact ⟨_, rfl, rfl, fun _ => ⟨h, h'⟩⟩
    · have hn : 1048576 < n2 := by omega
      go_enter Try.func19, Try.ntmps19
      go_wp2
      go_ret
      exact ⟨_, rfl, rfl, fun e => by cases e⟩
  · have hn : 1048576 < n1 := by omega
    go_enter Try.func19, Try.ntmps19
    go_wp2
    go_ret
    exact ⟨_, rfl, rfl, fun e => by cases e⟩

theorem shape_no (a1 : Option Addr) (n1 c1 : Nat) (a2 : Option Addr) (n2 c2 : Nat) (w : World) (h : n1 ≠ n2 ∨ n1 = 0) : Calls Try.prog 22 #[.slice a1 n1 c1, .slice a2 n2 c2] w fun e w' => e = .returned (.bool false) ∧ w = w' := by
  by_cases hn : n1 = n2
  · have h0 : n1 = 0 := by omega
    subst hn
    subst h0
    go_enter Try.func22, Try.ntmps22
    go_wp2
    go_ret
    exact ⟨rfl, rfl⟩
  · have hb : (n1 != n2) = true := by simpa using hn
    have hc : ((n1 : Int) != (n2 : Int)) = true := by simp; omega
    clear h hn
    go_enter Try.func22, Try.ntmps22
    go_wp2
    go_ret
    exact ⟨rfl, rfl⟩

theorem shape_yes (R : Nat) (n c : Nat) (a2 : Option Addr) (c2 : Nat) (z : List Int) (w : World) (hn1 : 1 ≤ n) (hn : n ≤ 65536) (hp : ∀ i, i < n → w.cell? ⟨R, i, none⟩ = some (.int .i64 (z.getD i 0))) :
    Calls Try.prog 22 #[.slice (some ⟨R, 0, none⟩) n c, .slice a2 n c2] w (SomeB (∀ i, 0 < i → i < n → 0 ≤ z.getD i 0 ∧ z.getD i 0 < i) w) := by
  have HP := Lib.hid hp
  have h0 : (n == 0) = false := by simp; omega
  have h0' : ((n : Int) == 0) = false := by simp; omega
  clear hp
  go_enter Try.func22, Try.ntmps22
  go_wp2_with fail
  go_loop [5] (fun v5 => ∃ k : Nat, 1 ≤ k ∧ k ≤ n ∧ v5 = .int .i64 k ∧ ∀ i, 0 < i → i < k → 0 ≤ z.getD i 0 ∧ z.getD i 0 < i) (fun v5 => n - (intOf v5).toNat)
  case atStart => exact ⟨1, Nat.le_refl _, hn1, rfl, fun i h1 h2 => by omega⟩
  case round =>
    obtain ⟨k, hk1, hk, rfl, hall⟩ := hrel
    have HA := Lib.hid hall
    clear hall
    by_cases hlt : k < n
    · have hc := HP.out k hlt
      obtain ⟨v, hv⟩ : ∃ v, z.getD k 0 = v := ⟨_, rfl⟩
      rw [hv] at hc
      have HV := Lib.hid hv
      clear hv
      by_cases h1 : v < 0
      · go_wp2_with fail
        go_ret
        exact ⟨_, rfl, rfl, fun e => by cases e⟩
      · by_cases h2 : (k : Int) ≤ v
        · go_wp2_with fail
          go_ret
          exact ⟨_, rfl, rfl, fun e => by cases e⟩
        · have HN : Hid (∀ i, 0 < i → i < k + 1 → 0 ≤ z.getD i 0 ∧ z.getD i 0 < i) := fun i q1 q2 => by
            by_cases e : i = k
            · rw [e, HV.out]; omega
            · exact HA.out i q1 (by omega)
          go_wp2_with fail
          go_round
          case rel => exact ⟨k + 1, by omega, by omega, by go_num, HN.out⟩
          case measure => simp [intOf]; omega
    · obtain rfl : k = n := by omega
      go_wp2_with fail
      go_ret
      exact ⟨_, rfl, rfl, fun _ => HA.out⟩

theorem info4 : (Try.prog.info? 4).map (fun i => (i.zero, i.size, i.bytes)) = some (some (.bool false), 1, 1) := by kernel_rfl

open Classical in
/-- Reached from the root by zeros. -/
noncomputable def rch (par : Nat → Nat) (M : Nat → Int) (i : Nat) : Bool := decide (ZP par M 0 i)
theorem rch_zero (par : Nat → Nat) (M : Nat → Int) (h : M 0 = 0) : rch par M 0 = true := by
  unfold rch
  exact @decide_eq_true _ (Classical.propDecidable _) (.base h)
theorem rch_no (par : Nat → Nat) (M : Nat → Int) (i : Nat) (h : M i ≠ 0) : rch par M i = false := by
  unfold rch
  refine @decide_eq_false _ (Classical.propDecidable _) fun h' => ?_
  cases h' with
  | base h0 => exact h h0
  | step _ _ h0 => exact h h0
theorem rch_set (par : Nat → Nat) (M : Nat → Int) (kind : Int) (i : Nat) : setAt par kind 0 M i = if rch par M i then kind else M i := by
  unfold setAt rch
  by_cases h : ZP par M 0 i
  · simp [h]
  · simp [h]
theorem rch_succ (par : Nat → Nat) (M : Nat → Int) (i : Nat) (hi : 0 < i) (h : M i = 0) : rch par M i = rch par M (par i) := by
  unfold rch
  rw [decide_eq_decide]
  constructor
  · intro h'
    cases h' with
    | base _ => omega
    | step _ h1 _ => exact h1
  · intro h'
    exact .step hi h' h

theorem Grw.tree {w : World} {B R n : Nat} {par : Nat → Nat} {z : List Int} {P : Nat → Nat} {V : Nat → Value} (h : Grw w B R n n par z P V) : Tree w B n P (kids par n) (fun i => z.getD i 0) :=
  ⟨fun i hi => by
    obtain ⟨cs, r1, _, r3, r4⟩ := h.row i hi
    exact ⟨cs, V i, r1, r3, r4, h.own i hi⟩, h.inj⟩

end Go.Proofs.Ytailfkedgdlldac
