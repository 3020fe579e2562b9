import Derived.Test.YtdikaidllmhbhaaKit
import Derived.Test.YtdikaidllmhbhaaRow
namespace Go.Proofs.Ytdikaidllmhbhaa.fnSortedKeysOfMapIsTheSortedKeySet
open Go.ChangeShapes Go.WideShapes Go.ChangeAt Go.RowKit
set_option linter.unusedVariables false
set_option maxRecDepth 100000
set_option maxHeartbeats 2000000

theorem addr0 (B i : Nat) : (⟨B, 0, none⟩ : Addr).add i = ⟨B, i, none⟩ := by
  unfold Addr.add
  split
  · rename_i h; rw [h]
  · simp

def Strs (w : World) (a : Option Addr) (nn : Nat) (S : Nat → ByteArray) : Prop := ∀ i, i < nn → ∃ x, a = some x ∧ w.cell? (x.add i) = some (.string (S i))
theorem Strs_below {w w1 : World} {a : Option Addr} {nn : Nat} {S : Nat → ByteArray} (h : Strs w a nn S) (hb : Below w.heap.size w w1) : Strs w1 a nn S := fun i hi => by
  obtain ⟨x, e, hc⟩ := h i hi
  exact ⟨x, e, later hc hb⟩

/-- What the bound on the length says. -/
def Z4 (b : Nat) (S : Nat → ByteArray) (w : World) (e : Ending) (w' : World) : Prop := ∃ q, e = .returned (.bool q) ∧ (q = true → b ≤ 1048576 ∧ ∀ i, i < b → (S i).size ≤ 1048576) ∧ w = w'
theorem zz4 (an : Option Addr) (b cb : Nat) (S : Nat → ByteArray) (w : World) (mb : b ≤ 9223372036854775807) (hs : Strs w an b S) (hS : ∀ i, i < b → (S i).size ≤ 9223372036854775807) :
    Calls Try.prog 4 #[.slice an b cb] w (Z4 b S w) := by
  have HS := Lib.hid hs
  have HZ := Lib.hid hS
  clear hs hS
  by_cases h1 : 1048576 < b
  · as_aux_lemma =>
    go_enter Try.func4, Try.ntmps4
    go_wp2_with fail
    go_ret
    exact ⟨false, rfl, (fun e => by cases e), rfl⟩
  go_enter Try.func4, Try.ntmps4
  go_wp2_with fail
  go_loop [3, 4] (fun v13 v14 => ∃ k t : Nat, k ≤ b ∧ v14 = .int .i64 k ∧ v13 = .int .i64 t ∧ t ≤ 1048576 ∧ ∀ i, i < k → (S i).size ≤ 1048576) (fun _ v14 => b - (intOf v14).toNat)
  case atStart => exact ⟨0, b, Nat.zero_le _, rfl, by go_num, by omega, fun i hi => by omega⟩
  case round =>
    obtain ⟨k, t, hk, rfl, rfl, ht, hsm⟩ := hrel
    have HSM := Lib.hid hsm
    clear hsm
    by_cases hlt : k < b
    · obtain ⟨x, rfl, hc⟩ := HS.out k hlt
      have hz := HZ.out k hlt
      obtain ⟨s, hs⟩ : ∃ s, S k = s := ⟨_, rfl⟩
      rw [hs] at hc hz
      have HSS := Lib.hid hs
      clear hs
      by_cases g1 : 1048576 < s.size
      · go_wp2_with fail
        go_ret
        exact ⟨false, rfl, (fun e => by cases e), rfl⟩
      by_cases g2 : 1048576 < t + s.size
      · go_wp2_with fail
        go_ret
        exact ⟨false, rfl, (fun e => by cases e), rfl⟩
      · go_wp2_with fail
        go_round
        case rel =>
          refine ⟨k + 1, t + s.size, by omega, by go_num, by go_num, by omega, fun i hi => ?_⟩
          by_cases e : i = k
          · subst e; rw [HSS.out]; omega
          · exact HSM.out i (by omega)
        case measure => simp [intOf]; omega
    obtain rfl : k = b := by omega
    clear hlt
    go_wp2_with fail
    go_ret
    exact ⟨true, rfl, fun _ => ⟨by omega, HSM.out⟩, rfl⟩

/-- A count that is not too great. -/
def B5 (w : World) (e : Ending) (w' : World) : Prop := ∃ t : Nat, e = .returned (.int .i64 t) ∧ t ≤ 2097152 ∧ w = w'
theorem sb5 (an : Option Addr) (nn c' : Nat) (S : Nat → ByteArray) (w : World) (hnn : nn ≤ 65536) (hs : Strs w an nn S) (hS : ∀ i, i < nn → (S i).size ≤ 1048576) : Calls Try.prog 5 #[.slice an nn c'] w (B5 w) := by
  have HS := Lib.hid hs
  have HZ := Lib.hid hS
  clear hs hS
  go_enter Try.func5, Try.ntmps5
  go_wp2_with fail
  go_loop [3, 4] (fun v5 v6 => ∃ k t : Nat, k ≤ nn ∧ v6 = .int .i64 k ∧ v5 = .int .i64 t ∧ t ≤ 1048576) (fun _ v6 => nn - (intOf v6).toNat)
  case atStart => exact ⟨0, 16 * nn, Nat.zero_le _, rfl, by go_num, by omega⟩
  case round =>
    obtain ⟨k, t, hk, rfl, rfl, ht⟩ := hrel
    by_cases hlt : k < nn
    · obtain ⟨x, rfl, hc⟩ := HS.out k hlt
      have hz := HZ.out k hlt
      obtain ⟨s, hs⟩ : ∃ s, S k = s := ⟨_, rfl⟩
      rw [hs] at hc hz
      clear hs
      by_cases hg : 1048576 < t + s.size
      · go_wp2_with fail
        go_ret
        exact ⟨t + s.size, by go_num, by omega, rfl⟩
      · go_wp2_with fail
        go_round
        case rel => exact ⟨k + 1, t + s.size, by omega, by go_num, by go_num, by omega⟩
        case measure => simp [intOf]; omega
    · obtain rfl : k = nn := by omega
      go_wp2_with fail
      go_ret
      exact ⟨t, rfl, by omega, rfl⟩

theorem info_clone6 : (Try.prog.info? 9).map (fun i => (i.zero, i.size, i.bytes)) = some (some (.string ⟨#[]⟩), 1, 16) := by kernel_rfl

theorem clone6_nil (w : World) : Calls Try.prog 6 #[.slice none 0 0] w fun e w' => e = .returned (.slice none 0 0) ∧ w = w' := by
  have hnil := fun W => Lib.run_eql_slice_nil (P := Try.prog) W 22 9 none 0 0 0 0 Try.underlying22
  go_enter Try.func6, Try.ntmps6
  go_wp2
  go_ret
  exact ⟨rfl, rfl⟩

theorem clone6 (x : Addr) (len cap : Nat) (S : Nat → ByteArray) (w : World) (hn : len ≤ 1048576) (hcell : ∀ i, i < len → w.cell? (x.add i) = some (.string (S i))) :
    Calls Try.prog 6 #[.slice (some x) len cap] w fun e w' => e = .returned (.slice (some ⟨w.heap.size, 0, none⟩) len len) ∧ RowUpTo w' w.heap.size 9 len len (fun i => .string (S i)) ∧ Below w.heap.size w w' := by
  obtain ⟨i0, hi, hz0, hz1, hz2⟩ := info_parts info_clone6
  have hnil := fun W => Lib.run_eql_slice_nil (P := Try.prog) W 22 9 (some x) len cap 0 0 Try.underlying22
  have HC := Lib.hid hcell
  clear hcell
  go_enter Try.func6, Try.ntmps6
  go_wp2_with (at_make; refine wpList_make_full _ rfl _ _ 22 rfl w.heap.size 9 i0 _ 1 Try.underlying22 hi hz0 hz1 .i64 .i64 _ _ len rfl rfl rfl rfl (by rw [hz2]; omega) (by unfold maxLen; omega) (Nat.le_refl _) ?_; intro w1 hown hgrow)
  clear hi hz0 hz1 hz2 i0 hnil
  obtain ⟨cs0, hr0, hs0, _⟩ := RowAt.of_owns hown
  have hb1 : Below w.heap.size w w1 := (Below.refl _ _).grown hgrow (Nat.le_refl _) (fun k hk => by cases hk)
  have hB1 : RowUpTo w1 w.heap.size 9 len 0 (fun i => .string (S i)) := RowUpTo.start hr0 (by omega) _
  clear hown hgrow hr0 hs0
  go_loopw [4] (fun v4 wr => ∃ k : Nat, k ≤ len ∧ v4 = .int .i64 k ∧ RowUpTo wr w.heap.size 9 len k (fun i => .string (S i)) ∧ Below w.heap.size w wr) (fun v4 _ => len - (intOf v4).toNat)
  case atStart => exact ⟨0, Nat.zero_le _, rfl, hB1, hb1⟩
  case round =>
    obtain ⟨k, hk, rfl, hB, hb⟩ := hrel
    have HB := Lib.hid hB
    clear hB hB1 hb1
    by_cases hlt : k < len
    · obtain ⟨z, hz⟩ : ∃ z, S k = z := ⟨_, rfl⟩
      have hc := later (HC.out k hlt) hb
      rw [hz] at hc
      obtain ⟨x0, q0⟩ := HB.out.old hlt
      have q2 := HB.out.frozen k
      have HS : Hid (RowUpTo (wr.setCell ⟨w.heap.size, k, none⟩ (.string z)) w.heap.size 9 len (k + 1) (fun i => .string (S i))) := by
        have := HB.out.step hlt
        rw [hz] at this
        exact this
      clear hz
      go_wp2
      go_roundw
      case rel => exact ⟨k + 1, by omega, by go_num, HS.out, by go_grown⟩
      case measure => simp [intOf]; omega
    · obtain rfl : k = len := by omega
      go_wp2
      go_ret
      exact ⟨rfl, HB.out, hb⟩

/-- A copy of the names. -/
def Cl6 (n : Nat) (S : Nat → ByteArray) (w : World) (e : Ending) (w' : World) : Prop := ∃ b, e = .returned (.slice b n n) ∧ Strs w' b n S ∧ Below w.heap.size w w'
theorem cl6 (a : Option Addr) (n c : Nat) (S : Nat → ByteArray) (w : World) (hn : n ≤ 1048576) (hs : a = none → n = 0 ∧ c = 0) (h : Strs w a n S) : Calls Try.prog 6 #[.slice a n c] w (Cl6 n S w) := by
  cases a with
  | none =>
    obtain ⟨rfl, rfl⟩ := hs rfl
    refine (clone6_nil w).mono ?_
    rintro e w' ⟨rfl, rfl⟩
    exact ⟨none, rfl, fun i hi => by omega, Below.refl _ _⟩
  | some x =>
    refine (clone6 x n c S w hn (fun i hi => ?_)).mono ?_
    · obtain ⟨y, e, hc⟩ := h i hi
      cases e
      exact hc
    · rintro e w' ⟨rfl, hr, hb⟩
      refine ⟨_, rfl, fun i hi => ⟨_, rfl, ?_⟩, hb⟩
      have := hr.cell hi
      rw [addr0]
      exact this
theorem strs {w : World} {a : Option Addr} {n c : Nat} {S : Nat → ByteArray} (h : IsStrs w a n c S) : Strs w a n S ∧ (a = none → n = 0 ∧ c = 0) ∧ n ≤ 9223372036854775807 ∧ ∀ i, i < n → (S i).size ≤ 9223372036854775807 := by
  rcases h with ⟨rfl, rfl, rfl⟩ | ⟨x, rfl, hl, hm, hc⟩
  · exact ⟨fun i hi => by omega, fun _ => ⟨rfl, rfl⟩, by omega, fun i hi => by omega⟩
  · unfold maxLen at hm
    refine ⟨fun i hi => ⟨x, rfl, (hc i (by omega)).1⟩, (fun e => by cases e), by omega, fun i hi => ?_⟩
    have := (hc i (by omega)).2
    unfold maxLen at this
    exact this

end Go.Proofs.Ytdikaidllmhbhaa.fnSortedKeysOfMapIsTheSortedKeySet
