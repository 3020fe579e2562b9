import Derived.Test.YtfbjlgjlbndmkaaKit
import Derived.Test.YtfbjlgjlbndmkaaFcM
namespace Go.Proofs.Ytfbjlgjlbndmkaa
open Go.ChangeShapes Go.WideShapes Go.ChangeAt Go.RowKit
set_option linter.unusedVariables false
set_option maxRecDepth 100000
set_option maxHeartbeats 2000000

/-- What is known of a config of few bytes. -/
def Small (e : ByteArray) (n : Nat) (S : Nat → ByteArray) : Prop := e.size ≤ 1048576 ∧ n ≤ 1048576 ∧ ∀ i, i < n → (S i).size ≤ 1048576
def Byt4 (w : World) (X : Prop) (en : Ending) (w' : World) : Prop := ∃ r : Bool, en = .returned (.bool r) ∧ Below w.heap.size w w' ∧ (r = true → X)
set_option maxHeartbeats 4000000 in
theorem bytes4 (e : ByteArray) (f o m B : Int) (mn rn : Bool) (a : Option Addr) (n c : Nat) (e' : ByteArray) (f' o' m' B' : Int) (mn' rn' : Bool) (a' : Option Addr) (n' c' : Nat) (Sa Sb : Nat → ByteArray) (w : World) (hl1 : IsStrs w a n c Sa) (hl2 : IsStrs w a' n' c' Sb) :
    Calls Try.prog 4 #[.agg (CV e f o m B mn rn a n c), .agg (CV e' f' o' m' B' mn' rn' a' n' c')] w (Byt4 w (Small e n Sa ∧ Small e' n' Sb)) := by
  show Calls Try.prog 4 #[.agg #[.int .u16 B, .string e, .int .u64 f, .int .u64 o, .int .u64 m, .bool mn, .bool rn, .slice a n c], .agg #[.int .u16 B', .string e', .int .u64 f', .int .u64 o', .int .u64 m', .bool mn', .bool rn', .slice a' n' c']] w _
  have hbb : Below w.heap.size w ((w.alloc (.cells #[.int .u16 B, .string e, .int .u64 f, .int .u64 o, .int .u64 m, .bool mn, .bool rn, .slice a n c] 26)).alloc (.cells #[.int .u16 B', .string e', .int .u64 f', .int .u64 o', .int .u64 m', .bool mn', .bool rn', .slice a' n' c'] 26)) := ((Below.refl _ _).alloc (Nat.le_refl _) _).alloc (by simp) _
  have HA := Lib.hid (sc_of (strs_later hl1 hbb (Nat.le_refl _)))
  have HB := Lib.hid (sc_of (strs_later hl2 hbb (Nat.le_refl _)))
  have HBB := Lib.hid hbb
  clear hl1 hl2 hbb
  go_enter Try.func4, Try.ntmps4
  by_cases h1 : e.size ≤ 1048576
  case neg =>
    go_wp2
    go_ret
    exact ⟨_, rfl, HBB.out, fun h => by cases h⟩
  by_cases h2 : n ≤ 1048576
  case neg =>
    go_wp2
    go_ret
    exact ⟨_, rfl, HBB.out, fun h => by cases h⟩
  by_cases h3 : e.size + n ≤ 1048576
  case neg =>
    go_wp2
    go_ret
    exact ⟨_, rfl, HBB.out, fun h => by cases h⟩
  go_wp2
  go_loop [5, 6] (fun z i => ∃ k t : Nat, k ≤ n ∧ i = .int .i64 k ∧ z = .int .i64 t ∧ t ≤ 1048576 ∧ ∀ j, j < k → (Sa j).size ≤ 1048576) (fun _ i => n - (intOf i).toNat)
  case atStart => exact ⟨0, e.size + n, Nat.zero_le _, rfl, by go_num, h3, fun j hj => by omega⟩
  case round =>
    obtain ⟨k, t, hk, rfl, rfl, ht, hall⟩ := hrel
    have HX := Lib.hid hall
    clear hall
    by_cases hlt : k < n
    · obtain ⟨x, rfl, hx⟩ := HA.out k hlt
      by_cases h4 : (Sa k).size ≤ 1048576
      case neg =>
        go_wp2
        go_ret
        exact ⟨_, rfl, HBB.out, fun h => by cases h⟩
      by_cases h5 : t + (Sa k).size ≤ 1048576
      case neg =>
        go_wp2
        go_ret
        exact ⟨_, rfl, HBB.out, fun h => by cases h⟩
      have HX' : Hid (∀ j, j < k + 1 → (Sa j).size ≤ 1048576) := fun j hj => by
        by_cases e : j = k
        · subst e; exact h4
        · exact HX.out j (by omega)
      go_wp2
      go_round
      case rel => exact ⟨k + 1, t + (Sa k).size, by omega, by go_num, by go_num, h5, HX'.out⟩
      case measure => simp [intOf]; omega
    · obtain rfl : k = n := by omega
      by_cases g1 : e'.size ≤ 1048576
      case neg =>
        go_wp2
        go_ret
        exact ⟨_, rfl, HBB.out, fun h => by cases h⟩
      by_cases g0 : t + e'.size ≤ 1048576
      case neg =>
        go_wp2
        go_ret
        exact ⟨_, rfl, HBB.out, fun h => by cases h⟩
      by_cases g2 : n' ≤ 1048576
      case neg =>
        go_wp2
        go_ret
        exact ⟨_, rfl, HBB.out, fun h => by cases h⟩
      by_cases g3 : t + e'.size + n' ≤ 1048576
      case neg =>
        go_wp2
        go_ret
        exact ⟨_, rfl, HBB.out, fun h => by cases h⟩
      go_wp2
      go_loop [5, 7] (fun z i => ∃ j s : Nat, j ≤ n' ∧ i = .int .i64 j ∧ z = .int .i64 s ∧ s ≤ 1048576 ∧ ∀ l, l < j → (Sb l).size ≤ 1048576) (fun _ i => n' - (intOf i).toNat)
      case atStart => exact ⟨0, t + e'.size + n', Nat.zero_le _, rfl, by go_num, g3, fun j hj => by omega⟩
      case round =>
        obtain ⟨j, s, hj, rfl, rfl, hs, hall⟩ := hrel
        have HY := Lib.hid hall
        clear hall
        by_cases hlt' : j < n'
        · obtain ⟨y, rfl, hy⟩ := HB.out j hlt'
          by_cases h4 : (Sb j).size ≤ 1048576
          case neg =>
            go_wp2
            go_ret
            exact ⟨_, rfl, HBB.out, fun h => by cases h⟩
          by_cases h5 : s + (Sb j).size ≤ 1048576
          case neg =>
            go_wp2
            go_ret
            exact ⟨_, rfl, HBB.out, fun h => by cases h⟩
          have HY' : Hid (∀ l, l < j + 1 → (Sb l).size ≤ 1048576) := fun l hl => by
            by_cases e : l = j
            · subst e; exact h4
            · exact HY.out l (by omega)
          go_wp2
          go_round
          case rel => exact ⟨j + 1, s + (Sb j).size, by omega, by go_num, by go_num, h5, HY'.out⟩
          case measure => simp [intOf]; omega
        · obtain rfl : j = n' := by omega
          go_wp2
          go_ret
          exact ⟨_, rfl, HBB.out, fun _ => ⟨⟨h1, h2, HX.out⟩, g1, g2, HY.out⟩⟩
def Byt5 (w : World) (en : Ending) (w' : World) : Prop := ∃ z : Int, en = .returned (.int .i64 z) ∧ Below w.heap.size w w'
set_option maxHeartbeats 4000000 in
theorem bytes5 (e : ByteArray) (f o m B : Int) (mn rn : Bool) (a : Option Addr) (n c : Nat) (Sa : Nat → ByteArray) (w : World) (hl : IsStrs w a n c Sa) (hsm : Small e n Sa) : Calls Try.prog 5 #[.agg (CV e f o m B mn rn a n c)] w (Byt5 w) := by
  show Calls Try.prog 5 #[.agg #[.int .u16 B, .string e, .int .u64 f, .int .u64 o, .int .u64 m, .bool mn, .bool rn, .slice a n c]] w _
  have hbb : Below w.heap.size w (w.alloc (.cells #[.int .u16 B, .string e, .int .u64 f, .int .u64 o, .int .u64 m, .bool mn, .bool rn, .slice a n c] 26)) := (Below.refl _ _).alloc (Nat.le_refl _) _
  have HA := Lib.hid (sc_of (strs_later hl hbb (Nat.le_refl _)))
  have HBB := Lib.hid hbb
  obtain ⟨h1, h2, h3⟩ := hsm
  have H3 := Lib.hid h3
  clear hl hbb h3
  go_enter Try.func5, Try.ntmps5
  by_cases h4 : n ≤ 65536
  case neg =>
    go_wp2
    go_ret
    exact ⟨_, rfl, HBB.out⟩
  go_wp2
  go_loop [3, 4] (fun z i => ∃ k t : Nat, k ≤ n ∧ i = .int .i64 k ∧ z = .int .i64 t ∧ t ≤ 1048576) (fun _ i => n - (intOf i).toNat)
  case atStart => exact ⟨0, e.size, Nat.zero_le _, rfl, by go_num, h1⟩
  case round =>
    obtain ⟨k, t, hk, rfl, rfl, ht⟩ := hrel
    by_cases hlt : k < n
    · obtain ⟨x, rfl, hx⟩ := HA.out k hlt
      have h5 := H3.out k hlt
      by_cases h6 : t + (16 + (Sa k).size) ≤ 1048576
      case neg =>
        go_wp2
        go_ret
        exact ⟨_, rfl, HBB.out⟩
      go_wp2
      go_round
      case rel => exact ⟨k + 1, t + (16 + (Sa k).size), by omega, by go_num, by go_num, h6⟩
      case measure => simp [intOf]; omega
    · obtain rfl : k = n := by omega
      go_wp2
      go_ret
      exact ⟨_, rfl, HBB.out⟩


end Go.Proofs.Ytfbjlgjlbndmkaa
