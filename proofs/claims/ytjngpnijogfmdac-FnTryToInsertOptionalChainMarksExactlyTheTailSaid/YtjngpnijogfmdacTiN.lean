import Derived.Test.YtjngpnijogfmdacKit
import Derived.Test.YtjngpnijogfmdacTiM
namespace Go.Proofs.Ytjngpnijogfmdac.fnTryToInsertOptionalChainMarksExactlyTheTail
open Go.ChangeShapes Go.WideShapes Go.ChangeAt Go.RowKit
set_option linter.unusedVariables false
set_option maxRecDepth 100000
set_option maxHeartbeats 2000000

/-- A count that is not too great. -/
def B5 (w : World) (e : Ending) (w' : World) : Prop := ∃ t : Nat, e = .returned (.int .i64 t) ∧ t ≤ 18874368 ∧ w = w'
theorem bytes5 (ak : Option Addr) (n c : Nat) (an : Option Addr) (nn c' : Nat) (S : Nat → ByteArray) (w : World) (hn : n ≤ 1048576) (hnn : nn ≤ 1048576) (hs : Strs w an nn S) (hS : ∀ i, i < nn → (S i).size ≤ 1048576) : Calls Try.prog 5 #[.slice ak n c, .slice an nn c'] w (B5 w) := by
  have HS := Lib.hid hs
  have HZ := Lib.hid hS
  clear hs hS
  go_enter Try.func5, Try.ntmps5
  go_wp2_with fail
  go_loop [5, 6] (fun v5 v6 => ∃ k t : Nat, k ≤ nn ∧ v6 = .int .i64 k ∧ v5 = .int .i64 t ∧ t ≤ 17825792) (fun _ v6 => nn - (intOf v6).toNat)
  case atStart => exact ⟨0, n + 16 * nn, Nat.zero_le _, rfl, by go_num, by omega⟩
  case round =>
    obtain ⟨k, t, hk, rfl, rfl, ht⟩ := hrel
    by_cases hlt : k < nn
    · obtain ⟨x, rfl, hc⟩ := HS.out k hlt
      have hz := HZ.out k hlt
      obtain ⟨s, hs⟩ : ∃ s, S k = s := ⟨_, rfl⟩
      rw [hs] at hc hz
      clear hs
      by_cases hg : 1048576 < t + s.size
      · go_wp2_with fail
        go_ret
        exact ⟨t + s.size, by go_num, by omega, rfl⟩
      · go_wp2_with fail
        go_round
        case rel => exact ⟨k + 1, t + s.size, by omega, by go_num, by go_num, by omega⟩
        case measure => simp [intOf]; omega
    · obtain rfl : k = nn := by omega
      go_wp2_with fail
      go_ret
      exact ⟨t, rfl, by omega, rfl⟩

/-- What the bound on the length says. -/
def Z4 (a b c d : Nat) (S S' : Nat → ByteArray) (w : World) (e : Ending) (w' : World) : Prop := ∃ q, e = .returned (.bool q) ∧ (q = true → a ≤ 1048576 ∧ b ≤ 1048576 ∧ c ≤ 1048576 ∧ d ≤ 1048576 ∧ (∀ i, i < b → (S i).size ≤ 1048576) ∧ ∀ i, i < d → (S' i).size ≤ 1048576) ∧ w = w'
theorem zz4 (r r' : Int) (ak : Option Addr) (a ca : Nat) (an : Option Addr) (b cb : Nat) (S : Nat → ByteArray) (bk : Option Addr) (c cc : Nat) (bn : Option Addr) (d cd : Nat) (S' : Nat → ByteArray) (w : World) (ma : a ≤ 9223372036854775807) (mb : b ≤ 9223372036854775807) (mc : c ≤ 9223372036854775807) (md : d ≤ 9223372036854775807)
    (hs : Strs w an b S) (hs' : Strs w bn d S') (hS : ∀ i, i < b → (S i).size ≤ 9223372036854775807) (hS' : ∀ i, i < d → (S' i).size ≤ 9223372036854775807) :
    Calls Try.prog 4 #[.int .u32 r, .slice ak a ca, .slice an b cb, .int .u32 r', .slice bk c cc, .slice bn d cd] w (Z4 a b c d S S' w) := by
  have HS := Lib.hid hs
  have HS' := Lib.hid hs'
  have HZ := Lib.hid hS
  have HZ' := Lib.hid hS'
  clear hs hs' hS hS'
  by_cases h1 : 1048576 < a
  · as_aux_lemma =>
    go_enter Try.func4, Try.ntmps4
    go_wp2_with fail
    go_ret
    exact ⟨false, rfl, (fun e => by cases e), rfl⟩
  by_cases h2 : 1048576 < b
  · as_aux_lemma =>
    go_enter Try.func4, Try.ntmps4
    go_wp2_with fail
    go_ret
    exact ⟨false, rfl, (fun e => by cases e), rfl⟩
  by_cases h3 : 1048576 < a + b
  · as_aux_lemma =>
    go_enter Try.func4, Try.ntmps4
    go_wp2_with fail
    go_ret
    exact ⟨false, rfl, (fun e => by cases e), rfl⟩
  go_enter Try.func4, Try.ntmps4
  go_wp2_with fail
  go_loop [13, 14] (fun v13 v14 => ∃ k t : Nat, k ≤ b ∧ v14 = .int .i64 k ∧ v13 = .int .i64 t ∧ t ≤ 1048576 ∧ ∀ i, i < k → (S i).size ≤ 1048576) (fun _ v14 => b - (intOf v14).toNat)
  case atStart => exact ⟨0, a + b, Nat.zero_le _, rfl, by go_num, by omega, fun i hi => by omega⟩
  case round =>
    obtain ⟨k, t, hk, rfl, rfl, ht, hsm⟩ := hrel
    have HSM := Lib.hid hsm
    clear hsm
    by_cases hlt : k < b
    · obtain ⟨x, rfl, hc⟩ := HS.out k hlt
      have hz := HZ.out k hlt
      obtain ⟨s, hs⟩ : ∃ s, S k = s := ⟨_, rfl⟩
      rw [hs] at hc hz
      have HSS := Lib.hid hs
      clear hs
      by_cases g1 : 1048576 < s.size
      · go_wp2_with fail
        go_ret
        exact ⟨false, rfl, (fun e => by cases e), rfl⟩
      by_cases g2 : 1048576 < t + s.size
      · go_wp2_with fail
        go_ret
        exact ⟨false, rfl, (fun e => by cases e), rfl⟩
      · go_wp2_with fail
        go_round
        case rel =>
          refine ⟨k + 1, t + s.size, by omega, by go_num, by go_num, by omega, fun i hi => ?_⟩
          by_cases e : i = k
          · subst e; rw [HSS.out]; omega
          · exact HSM.out i (by omega)
        case measure => simp [intOf]; omega
    obtain rfl : k = b := by omega
    clear hlt
    by_cases h4 : 1048576 < c
    · go_wp2_with fail
      go_ret
      exact ⟨false, rfl, (fun e => by cases e), rfl⟩
    by_cases h5 : 1048576 < t + c
    · go_wp2_with fail
      go_ret
      exact ⟨false, rfl, (fun e => by cases e), rfl⟩
    by_cases h6 : 1048576 < d
    · go_wp2_with fail
      go_ret
      exact ⟨false, rfl, (fun e => by cases e), rfl⟩
    by_cases h7 : 1048576 < t + c + d
    · go_wp2_with fail
      go_ret
      exact ⟨false, rfl, (fun e => by cases e), rfl⟩
    go_wp2_with fail
    go_loop [13, 15] (fun v13 v15 => ∃ j t' : Nat, j ≤ d ∧ v15 = .int .i64 j ∧ v13 = .int .i64 t' ∧ t' ≤ 1048576 ∧ ∀ i, i < j → (S' i).size ≤ 1048576) (fun _ v15 => d - (intOf v15).toNat)
    case atStart => exact ⟨0, t + c + d, Nat.zero_le _, rfl, by go_num, by omega, fun i hi => by omega⟩
    case round =>
      obtain ⟨j, t', hj, rfl, rfl, ht', hsm'⟩ := hrel
      have HSM' := Lib.hid hsm'
      clear hsm'
      by_cases hlt : j < d
      · obtain ⟨x, rfl, hc⟩ := HS'.out j hlt
        have hz := HZ'.out j hlt
        obtain ⟨s, hs⟩ : ∃ s, S' j = s := ⟨_, rfl⟩
        rw [hs] at hc hz
        have HSS := Lib.hid hs
        clear hs
        by_cases g1 : 1048576 < s.size
        · go_wp2_with fail
          go_ret
          exact ⟨false, rfl, (fun e => by cases e), rfl⟩
        by_cases g2 : 1048576 < t' + s.size
        · go_wp2_with fail
          go_ret
          exact ⟨false, rfl, (fun e => by cases e), rfl⟩
        · go_wp2_with fail
          go_round
          case rel =>
            refine ⟨j + 1, t' + s.size, by omega, by go_num, by go_num, by omega, fun i hi => ?_⟩
            by_cases e : i = j
            · subst e; rw [HSS.out]; omega
            · exact HSM'.out i (by omega)
          case measure => simp [intOf]; omega
      · obtain rfl : j = d := by omega
        go_wp2_with fail
        go_ret
        exact ⟨true, rfl, fun _ => ⟨by omega, by omega, by omega, by omega, HSM.out, HSM'.out⟩, rfl⟩

end Go.Proofs.Ytjngpnijogfmdac.fnTryToInsertOptionalChainMarksExactlyTheTail
