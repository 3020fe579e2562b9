import Derived.Test.YtdikaidllmhbhabKit
import Derived.Test.YtdikaidllmhbhabRow
namespace Go.Proofs.Ytdikaidllmhbhab.fnStoreNameScriptRoundTrip
open Go.ChangeShapes Go.WideShapes Go.ChangeAt Go.RowKit
set_option linter.unusedVariables false
set_option maxRecDepth 100000
set_option maxHeartbeats 2000000

theorem addr0 (B i : Nat) : (⟨B, 0, none⟩ : Addr).add i = ⟨B, i, none⟩ := by
  unfold Addr.add
  split
  · rename_i h; rw [h]
  · simp
def Vals (w : World) (a : Option Addr) (nn : Nat) (F : Nat → Value) : Prop := ∀ i, i < nn → ∃ x, a = some x ∧ w.cell? (x.add i) = some (F i)
theorem Vals_below {w w1 : World} {a : Option Addr} {nn : Nat} {F : Nat → Value} (h : Vals w a nn F) (hb : Below w.heap.size w w1) : Vals w1 a nn F := fun i hi => by
  obtain ⟨x, e, hc⟩ := h i hi
  exact ⟨x, e, later hc hb⟩
theorem strs {w : World} {a : Option Addr} {n c : Nat} {S : Nat → ByteArray} (h : IsStrs w a n c S) : Vals w a n (fun i => .string (S i)) ∧ (a = none → n = 0 ∧ c = 0) ∧ n ≤ 9223372036854775807 ∧ ∀ i, i < n → (S i).size ≤ 9223372036854775807 := by
  rcases h with ⟨rfl, rfl, rfl⟩ | ⟨x, rfl, hl, hm, hc⟩
  · exact ⟨fun i hi => by omega, fun _ => ⟨rfl, rfl⟩, by omega, fun i hi => by omega⟩
  · unfold maxLen at hm
    refine ⟨fun i hi => ⟨x, rfl, (hc i (by omega)).1⟩, (fun e => by cases e), by omega, fun i hi => ?_⟩
    have := (hc i (by omega)).2
    unfold maxLen at this
    exact this
theorem bools {w : World} {a : Option Addr} {n c : Nat} {S : Nat → Bool} (h : IsBools w a n c S) : Vals w a n (fun i => .bool (S i)) ∧ (a = none → n = 0 ∧ c = 0) ∧ n ≤ 9223372036854775807 := by
  rcases h with ⟨rfl, rfl, rfl⟩ | ⟨x, rfl, hl, hm, hc⟩
  · exact ⟨fun i hi => by omega, fun _ => ⟨rfl, rfl⟩, by omega⟩
  · unfold maxLen at hm
    exact ⟨fun i hi => ⟨x, rfl, hc i (by omega)⟩, (fun e => by cases e), by omega⟩
theorem ints {w : World} {a : Option Addr} {n c : Nat} {zs : List Int} (h : IsRow .u32 w a n c zs) : Vals w a n (fun i => .int .u32 (zs.getD i 0)) ∧ (a = none → n = 0 ∧ c = 0) ∧ n ≤ 9223372036854775807 ∧ ∀ i, i < n → 0 ≤ zs.getD i 0 ∧ zs.getD i 0 ≤ 4294967295 := by
  rcases h with ⟨rfl, rfl, rfl, _⟩ | ⟨x, rfl, hl, hm, hz, hc, hw⟩
  · exact ⟨fun i hi => by omega, fun _ => ⟨rfl, rfl⟩, by omega, fun i hi => by omega⟩
  · unfold maxLen at hm
    refine ⟨fun i hi => ⟨x, rfl, hc i (by omega)⟩, (fun e => by cases e), by omega, fun i hi => ?_⟩
    have h := hw (zs.getD i 0) (by rw [List.getD_eq_getElem?_getD, List.getElem?_eq_getElem (by omega)]; simp)
    simp only [Lit.wf, Bool.and_eq_true, decide_eq_true_eq] at h
    exact ⟨h.1, h.2⟩

/-- What the bound on the lengths says. -/
def Z4 (c b n2 n3 n4 : Nat) (S : Nat → ByteArray) (w : World) (e : Ending) (w' : World) : Prop := ∃ q, e = .returned (.bool q) ∧ (q = true → c ≤ 1048576 ∧ b ≤ 1048576 ∧ (∀ i, i < b → (S i).size ≤ 1048576) ∧ n2 ≤ 1048576 ∧ n3 ≤ 1048576 ∧ n4 ≤ 1048576) ∧ w = w'
theorem zz4 (ct : ByteArray) (an : Option Addr) (b cb : Nat) (S : Nat → ByteArray) (a2 : Option Addr) (n2 c2 : Nat) (a3 : Option Addr) (n3 c3 : Nat) (a4 : Option Addr) (n4 c4 : Nat) (w : World) (mc : ct.size ≤ 9223372036854775807) (mb : b ≤ 9223372036854775807) (m2 : n2 ≤ 9223372036854775807) (m3 : n3 ≤ 9223372036854775807) (m4 : n4 ≤ 9223372036854775807) (hs : Vals w an b (fun i => .string (S i))) (hS : ∀ i, i < b → (S i).size ≤ 9223372036854775807) :
    Calls Try.prog 4 #[.string ct, .slice an b cb, .slice a2 n2 c2, .slice a3 n3 c3, .slice a4 n4 c4] w (Z4 ct.size b n2 n3 n4 S w) := by
  have HS := Lib.hid hs
  have HZ := Lib.hid hS
  clear hs hS
  by_cases h0 : 1048576 < ct.size
  · as_aux_lemma =>
    go_enter Try.func4, Try.ntmps4
    go_wp2_with fail
    go_ret
    exact ⟨false, rfl, (fun e => by cases e), rfl⟩
  by_cases h1 : 1048576 < b
  · as_aux_lemma =>
    go_enter Try.func4, Try.ntmps4
    go_wp2_with fail
    go_ret
    exact ⟨false, rfl, (fun e => by cases e), rfl⟩
  by_cases h2 : 1048576 < ct.size + b
  · as_aux_lemma =>
    go_enter Try.func4, Try.ntmps4
    go_wp2_with fail
    go_ret
    exact ⟨false, rfl, (fun e => by cases e), rfl⟩
  go_enter Try.func4, Try.ntmps4
  go_wp2_with fail
  go_loop [11, 12] (fun v13 v14 => ∃ k t : Nat, k ≤ b ∧ v14 = .int .i64 k ∧ v13 = .int .i64 t ∧ t ≤ 1048576 ∧ ∀ i, i < k → (S i).size ≤ 1048576) (fun _ v14 => b - (intOf v14).toNat)
  case atStart => exact ⟨0, ct.size + b, Nat.zero_le _, rfl, by go_num, by omega, fun i hi => by omega⟩
  case round =>
    obtain ⟨k, t, hk, rfl, rfl, ht, hsm⟩ := hrel
    have HSM := Lib.hid hsm
    clear hsm
    by_cases hlt : k < b
    · obtain ⟨x, rfl, hc0⟩ := HS.out k hlt
      have hc : w.cell? (x.add k) = some (.string (S k)) := hc0
      clear hc0
      have hz := HZ.out k hlt
      obtain ⟨s, hs⟩ : ∃ s, S k = s := ⟨_, rfl⟩
      rw [hs] at hc hz
      have HSS := Lib.hid hs
      clear hs
      by_cases g1 : 1048576 < s.size
      · go_wp2_with fail
        go_ret
        exact ⟨false, rfl, (fun e => by cases e), rfl⟩
      by_cases g2 : 1048576 < t + s.size
      · go_wp2_with fail
        go_ret
        exact ⟨false, rfl, (fun e => by cases e), rfl⟩
      · go_wp2_with fail
        go_round
        case rel =>
          refine ⟨k + 1, t + s.size, by omega, by go_num, by go_num, by omega, fun i hi => ?_⟩
          by_cases e : i = k
          · subst e; rw [HSS.out]; omega
          · exact HSM.out i (by omega)
        case measure => simp [intOf]; omega
    obtain rfl : k = b := by omega
    clear hlt
    by_cases e2 : 1048576 < n2
    · go_wp2_with fail
      go_ret
      exact ⟨false, rfl, (fun e => by cases e), rfl⟩
    by_cases f2 : 1048576 < t + n2
    · go_wp2_with fail
      go_ret
      exact ⟨false, rfl, (fun e => by cases e), rfl⟩
    by_cases e3 : 1048576 < n3
    · go_wp2_with fail
      go_ret
      exact ⟨false, rfl, (fun e => by cases e), rfl⟩
    by_cases f3 : 1048576 < t + n2 + n3
    · go_wp2_with fail
      go_ret
      exact ⟨false, rfl, (fun e => by cases e), rfl⟩
    by_cases e4 : 1048576 < n4
    · go_wp2_with fail
      go_ret
      exact ⟨false, rfl, (fun e => by cases e), rfl⟩
    by_cases f4 : 1048576 < t + n2 + n3 + n4
    · go_wp2_with fail
      go_ret
      exact ⟨false, rfl, (fun e => by cases e), rfl⟩
    go_wp2_with fail
    go_ret
    exact ⟨true, rfl, fun _ => ⟨by omega, by omega, HSM.out, by omega, by omega, by omega⟩, rfl⟩

theorem info_cl5 : (Try.prog.info? 9).map (fun i => (i.zero, i.size, i.bytes)) = some (some (.string ⟨#[]⟩), 1, 16) := by kernel_rfl
theorem clone5_nil (w : World) : Calls Try.prog 5 #[.slice none 0 0] w fun e w' => e = .returned (.slice none 0 0) ∧ w = w' := by
  have hnil := fun W => Lib.run_eql_slice_nil (P := Try.prog) W 22 9 none 0 0 0 0 Try.underlying22
  go_enter Try.func5, Try.ntmps5
  go_wp2
  go_ret
  exact ⟨rfl, rfl⟩
theorem clone5 (x : Addr) (len cap : Nat) (S : Nat → ByteArray) (w : World) (hn : len ≤ 1048576) (hcell : ∀ i, i < len → w.cell? (x.add i) = some (.string (S i))) :
    Calls Try.prog 5 #[.slice (some x) len cap] w fun e w' => e = .returned (.slice (some ⟨w.heap.size, 0, none⟩) len len) ∧ RowUpTo w' w.heap.size 9 len len (fun i => .string (S i)) ∧ Below w.heap.size w w' := by
  obtain ⟨i0, hi, hz0, hz1, hz2⟩ := info_parts info_cl5
  have hnil := fun W => Lib.run_eql_slice_nil (P := Try.prog) W 22 9 (some x) len cap 0 0 Try.underlying22
  have HC := Lib.hid hcell
  clear hcell
  go_enter Try.func5, Try.ntmps5
  go_wp2_with (at_make; refine wpList_make_full _ rfl _ _ 22 rfl w.heap.size 9 i0 _ 1 Try.underlying22 hi hz0 hz1 .i64 .i64 _ _ len rfl rfl rfl rfl (by rw [hz2]; omega) (by unfold maxLen; omega) (Nat.le_refl _) ?_; intro w1 hown hgrow)
  clear hi hz0 hz1 hz2 i0 hnil
  obtain ⟨cs0, hr0, hs0, _⟩ := RowAt.of_owns hown
  have hb1 : Below w.heap.size w w1 := (Below.refl _ _).grown hgrow (Nat.le_refl _) (fun k hk => by cases hk)
  have hB1 : RowUpTo w1 w.heap.size 9 len 0 (fun i => .string (S i)) := RowUpTo.start hr0 (by omega) _
  clear hown hgrow hr0 hs0
  go_loopw [4] (fun v4 wr => ∃ k : Nat, k ≤ len ∧ v4 = .int .i64 k ∧ RowUpTo wr w.heap.size 9 len k (fun i => .string (S i)) ∧ Below w.heap.size w wr) (fun v4 _ => len - (intOf v4).toNat)
  case atStart => exact ⟨0, Nat.zero_le _, rfl, hB1, hb1⟩
  case round =>
    obtain ⟨k, hk, rfl, hB, hb⟩ := hrel
    have HB := Lib.hid hB
    clear hB hB1 hb1
    by_cases hlt : k < len
    · obtain ⟨z, hz⟩ : ∃ z, S k = z := ⟨_, rfl⟩
      have hc := later (HC.out k hlt) hb
      rw [hz] at hc
      obtain ⟨x0, q0⟩ := HB.out.old hlt
      have q2 := HB.out.frozen k
      have HS : Hid (RowUpTo (wr.setCell ⟨w.heap.size, k, none⟩ (.string z)) w.heap.size 9 len (k + 1) (fun i => .string (S i))) := by
        have := HB.out.step hlt
        rw [hz] at this
        exact this
      clear hz
      go_wp2
      go_roundw
      case rel => exact ⟨k + 1, by omega, by go_num, HS.out, by go_grown⟩
      case measure => simp [intOf]; omega
    · obtain rfl : k = len := by omega
      go_wp2
      go_ret
      exact ⟨rfl, HB.out, hb⟩
def Cl5 (n : Nat) (S : Nat → ByteArray) (w : World) (e : Ending) (w' : World) : Prop := ∃ b, e = .returned (.slice b n n) ∧ Vals w' b n (fun i => .string (S i)) ∧ Below w.heap.size w w'
theorem cl5 (a : Option Addr) (n c : Nat) (S : Nat → ByteArray) (w : World) (hn : n ≤ 1048576) (hs : a = none → n = 0 ∧ c = 0) (h : Vals w a n (fun i => .string (S i))) : Calls Try.prog 5 #[.slice a n c] w (Cl5 n S w) := by
  cases a with
  | none =>
    obtain ⟨rfl, rfl⟩ := hs rfl
    refine (clone5_nil w).mono ?_
    rintro e w' ⟨rfl, rfl⟩
    exact ⟨none, rfl, fun i hi => by omega, Below.refl _ _⟩
  | some x =>
    refine (clone5 x n c S w hn (fun i hi => ?_)).mono ?_
    · obtain ⟨y, e, hc⟩ := h i hi
      cases e
      exact hc
    · rintro e w' ⟨rfl, hr, hb⟩
      refine ⟨_, rfl, fun i hi => ⟨_, rfl, ?_⟩, hb⟩
      have := hr.cell hi
      rw [addr0]
      exact this

theorem info_cl6 : (Try.prog.info? 4).map (fun i => (i.zero, i.size, i.bytes)) = some (some (.bool false), 1, 1) := by kernel_rfl
theorem clone6_nil (w : World) : Calls Try.prog 6 #[.slice none 0 0] w fun e w' => e = .returned (.slice none 0 0) ∧ w = w' := by
  have hnil := fun W => Lib.run_eql_slice_nil (P := Try.prog) W 23 4 none 0 0 0 0 Try.underlying23
  go_enter Try.func6, Try.ntmps6
  go_wp2
  go_ret
  exact ⟨rfl, rfl⟩
theorem clone6 (x : Addr) (len cap : Nat) (S : Nat → Bool) (w : World) (hn : len ≤ 1048576) (hcell : ∀ i, i < len → w.cell? (x.add i) = some (.bool (S i))) :
    Calls Try.prog 6 #[.slice (some x) len cap] w fun e w' => e = .returned (.slice (some ⟨w.heap.size, 0, none⟩) len len) ∧ RowUpTo w' w.heap.size 4 len len (fun i => .bool (S i)) ∧ Below w.heap.size w w' := by
  obtain ⟨i0, hi, hz0, hz1, hz2⟩ := info_parts info_cl6
  have hnil := fun W => Lib.run_eql_slice_nil (P := Try.prog) W 23 4 (some x) len cap 0 0 Try.underlying23
  have HC := Lib.hid hcell
  clear hcell
  go_enter Try.func6, Try.ntmps6
  go_wp2_with (at_make; refine wpList_make_full _ rfl _ _ 23 rfl w.heap.size 4 i0 _ 1 Try.underlying23 hi hz0 hz1 .i64 .i64 _ _ len rfl rfl rfl rfl (by rw [hz2]; omega) (by unfold maxLen; omega) (Nat.le_refl _) ?_; intro w1 hown hgrow)
  clear hi hz0 hz1 hz2 i0 hnil
  obtain ⟨cs0, hr0, hs0, _⟩ := RowAt.of_owns hown
  have hb1 : Below w.heap.size w w1 := (Below.refl _ _).grown hgrow (Nat.le_refl _) (fun k hk => by cases hk)
  have hB1 : RowUpTo w1 w.heap.size 4 len 0 (fun i => .bool (S i)) := RowUpTo.start hr0 (by omega) _
  clear hown hgrow hr0 hs0
  go_loopw [4] (fun v4 wr => ∃ k : Nat, k ≤ len ∧ v4 = .int .i64 k ∧ RowUpTo wr w.heap.size 4 len k (fun i => .bool (S i)) ∧ Below w.heap.size w wr) (fun v4 _ => len - (intOf v4).toNat)
  case atStart => exact ⟨0, Nat.zero_le _, rfl, hB1, hb1⟩
  case round =>
    obtain ⟨k, hk, rfl, hB, hb⟩ := hrel
    have HB := Lib.hid hB
    clear hB hB1 hb1
    by_cases hlt : k < len
    · obtain ⟨z, hz⟩ : ∃ z, S k = z := ⟨_, rfl⟩
      have hc := later (HC.out k hlt) hb
      rw [hz] at hc
      obtain ⟨x0, q0⟩ := HB.out.old hlt
      have q2 := HB.out.frozen k
      have HS : Hid (RowUpTo (wr.setCell ⟨w.heap.size, k, none⟩ (.bool z)) w.heap.size 4 len (k + 1) (fun i => .bool (S i))) := by
        have := HB.out.step hlt
        rw [hz] at this
        exact this
      clear hz
      go_wp2
      go_roundw
      case rel => exact ⟨k + 1, by omega, by go_num, HS.out, by go_grown⟩
      case measure => simp [intOf]; omega
    · obtain rfl : k = len := by omega
      go_wp2
      go_ret
      exact ⟨rfl, HB.out, hb⟩
def Cl6 (n : Nat) (S : Nat → Bool) (w : World) (e : Ending) (w' : World) : Prop := ∃ b, e = .returned (.slice b n n) ∧ Vals w' b n (fun i => .bool (S i)) ∧ Below w.heap.size w w'
theorem cl6 (a : Option Addr) (n c : Nat) (S : Nat → Bool) (w : World) (hn : n ≤ 1048576) (hs : a = none → n = 0 ∧ c = 0) (h : Vals w a n (fun i => .bool (S i))) : Calls Try.prog 6 #[.slice a n c] w (Cl6 n S w) := by
  cases a with
  | none =>
    obtain ⟨rfl, rfl⟩ := hs rfl
    refine (clone6_nil w).mono ?_
    rintro e w' ⟨rfl, rfl⟩
    exact ⟨none, rfl, fun i hi => by omega, Below.refl _ _⟩
  | some x =>
    refine (clone6 x n c S w hn (fun i hi => ?_)).mono ?_
    · obtain ⟨y, e, hc⟩ := h i hi
      cases e
      exact hc
    · rintro e w' ⟨rfl, hr, hb⟩
      refine ⟨_, rfl, fun i hi => ⟨_, rfl, ?_⟩, hb⟩
      have := hr.cell hi
      rw [addr0]
      exact this

theorem info_cl7 : (Try.prog.info? 32).map (fun i => (i.zero, i.size, i.bytes)) = some (some (.int .u32 0), 1, 4) := by kernel_rfl
theorem clone7_nil (w : World) : Calls Try.prog 7 #[.slice none 0 0] w fun e w' => e = .returned (.slice none 0 0) ∧ w = w' := by
  have hnil := fun W => Lib.run_eql_slice_nil (P := Try.prog) W 24 32 none 0 0 0 0 Try.underlying24
  go_enter Try.func7, Try.ntmps7
  go_wp2
  go_ret
  exact ⟨rfl, rfl⟩
theorem clone7 (x : Addr) (len cap : Nat) (S : Nat → Int) (w : World) (hn : len ≤ 1048576) (hcell : ∀ i, i < len → w.cell? (x.add i) = some (.int .u32 (S i))) :
    Calls Try.prog 7 #[.slice (some x) len cap] w fun e w' => e = .returned (.slice (some ⟨w.heap.size, 0, none⟩) len len) ∧ RowUpTo w' w.heap.size 32 len len (fun i => .int .u32 (S i)) ∧ Below w.heap.size w w' := by
  obtain ⟨i0, hi, hz0, hz1, hz2⟩ := info_parts info_cl7
  have hnil := fun W => Lib.run_eql_slice_nil (P := Try.prog) W 24 32 (some x) len cap 0 0 Try.underlying24
  have HC := Lib.hid hcell
  clear hcell
  go_enter Try.func7, Try.ntmps7
  go_wp2_with (at_make; refine wpList_make_full _ rfl _ _ 24 rfl w.heap.size 32 i0 _ 1 Try.underlying24 hi hz0 hz1 .i64 .i64 _ _ len rfl rfl rfl rfl (by rw [hz2]; omega) (by unfold maxLen; omega) (Nat.le_refl _) ?_; intro w1 hown hgrow)
  clear hi hz0 hz1 hz2 i0 hnil
  obtain ⟨cs0, hr0, hs0, _⟩ := RowAt.of_owns hown
  have hb1 : Below w.heap.size w w1 := (Below.refl _ _).grown hgrow (Nat.le_refl _) (fun k hk => by cases hk)
  have hB1 : RowUpTo w1 w.heap.size 32 len 0 (fun i => .int .u32 (S i)) := RowUpTo.start hr0 (by omega) _
  clear hown hgrow hr0 hs0
  go_loopw [4] (fun v4 wr => ∃ k : Nat, k ≤ len ∧ v4 = .int .i64 k ∧ RowUpTo wr w.heap.size 32 len k (fun i => .int .u32 (S i)) ∧ Below w.heap.size w wr) (fun v4 _ => len - (intOf v4).toNat)
  case atStart => exact ⟨0, Nat.zero_le _, rfl, hB1, hb1⟩
  case round =>
    obtain ⟨k, hk, rfl, hB, hb⟩ := hrel
    have HB := Lib.hid hB
    clear hB hB1 hb1
    by_cases hlt : k < len
    · obtain ⟨z, hz⟩ : ∃ z, S k = z := ⟨_, rfl⟩
      have hc := later (HC.out k hlt) hb
      rw [hz] at hc
      obtain ⟨x0, q0⟩ := HB.out.old hlt
      have q2 := HB.out.frozen k
      have HS : Hid (RowUpTo (wr.setCell ⟨w.heap.size, k, none⟩ (.int .u32 z)) w.heap.size 32 len (k + 1) (fun i => .int .u32 (S i))) := by
        have := HB.out.step hlt
        rw [hz] at this
        exact this
      clear hz
      go_wp2
      go_roundw
      case rel => exact ⟨k + 1, by omega, by go_num, HS.out, by go_grown⟩
      case measure => simp [intOf]; omega
    · obtain rfl : k = len := by omega
      go_wp2
      go_ret
      exact ⟨rfl, HB.out, hb⟩
def Cl7 (n : Nat) (S : Nat → Int) (w : World) (e : Ending) (w' : World) : Prop := ∃ b, e = .returned (.slice b n n) ∧ Vals w' b n (fun i => .int .u32 (S i)) ∧ Below w.heap.size w w'
theorem cl7 (a : Option Addr) (n c : Nat) (S : Nat → Int) (w : World) (hn : n ≤ 1048576) (hs : a = none → n = 0 ∧ c = 0) (h : Vals w a n (fun i => .int .u32 (S i))) : Calls Try.prog 7 #[.slice a n c] w (Cl7 n S w) := by
  cases a with
  | none =>
    obtain ⟨rfl, rfl⟩ := hs rfl
    refine (clone7_nil w).mono ?_
    rintro e w' ⟨rfl, rfl⟩
    exact ⟨none, rfl, fun i hi => by omega, Below.refl _ _⟩
  | some x =>
    refine (clone7 x n c S w hn (fun i hi => ?_)).mono ?_
    · obtain ⟨y, e, hc⟩ := h i hi
      cases e
      exact hc
    · rintro e w' ⟨rfl, hr, hb⟩
      refine ⟨_, rfl, fun i hi => ⟨_, rfl, ?_⟩, hb⟩
      have := hr.cell hi
      rw [addr0]
      exact this


end Go.Proofs.Ytdikaidllmhbhab.fnStoreNameScriptRoundTrip
