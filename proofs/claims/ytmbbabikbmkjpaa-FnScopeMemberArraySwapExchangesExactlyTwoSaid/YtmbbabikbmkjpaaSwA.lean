import Derived.Test.YtmbbabikbmkjpaaKit
import Derived.Test.YtmbbabikbmkjpaaRec
namespace Go.Proofs.Ytmbbabikbmkjpaa.fnScopeMemberArraySwapExchangesExactlyTwo
open Go.ChangeShapes Go.WideShapes Go.ChangeAt Go.RowKit
set_option linter.unusedVariables false
set_option maxRecDepth 100000
set_option maxHeartbeats 2000000

theorem info_cu : (Try.prog.info? 31).map (fun i => (i.zero, i.size, i.bytes)) = some (some (.int .u32 0), 1, 4) := by kernel_rfl

theorem cu_nil (w : World) : Calls Try.prog 7 #[.slice none 0 0] w fun e w' => e = .returned (.slice none 0 0) ∧ w = w' := by
  have hnil := fun W => Lib.run_eql_slice_nil (P := Try.prog) W 22 31 none 0 0 0 0 Try.underlying22
  go_enter Try.func7, Try.ntmps7
  go_wp2
  go_ret
  exact ⟨rfl, rfl⟩

theorem cu (x : Addr) (len cap : Nat) (zs : List Int) (w : World) (hn : len ≤ 1048576) (hcell : ∀ i, i < len → w.cell? (x.add i) = some (.int .u32 (zs.getD i 0))) :
    Calls Try.prog 7 #[.slice (some x) len cap] w fun e w' => e = .returned (.slice (some ⟨w.heap.size, 0, none⟩) len len) ∧ RowUpTo w' w.heap.size 31 len len (fun i => .int .u32 (zs.getD i 0)) ∧ Below w.heap.size w w' := by
  obtain ⟨i0, hi, hz0, hz1, hz2⟩ := info_parts info_cu
  have hnil := fun W => Lib.run_eql_slice_nil (P := Try.prog) W 22 31 (some x) len cap 0 0 Try.underlying22
  have HC := Lib.hid hcell
  clear hcell
  go_enter Try.func7, Try.ntmps7
  go_wp2_with (at_make; refine wpList_make_full _ rfl _ _ 22 rfl w.heap.size 31 i0 _ 1 Try.underlying22 hi hz0 hz1 .i64 .i64 _ _ len rfl rfl rfl rfl (by rw [hz2]; omega) (by unfold maxLen; omega) (Nat.le_refl _) ?_; intro w1 hown hgrow)
  clear hi hz0 hz1 hz2 i0 hnil
  obtain ⟨cs0, hr0, hs0, _⟩ := RowAt.of_owns hown
  have hb1 : Below w.heap.size w w1 := (Below.refl _ _).grown hgrow (Nat.le_refl _) (fun k hk => by cases hk)
  have hB1 : RowUpTo w1 w.heap.size 31 len 0 (fun i => .int .u32 (zs.getD i 0)) := RowUpTo.start hr0 (by omega) _
  clear hown hgrow hr0 hs0
  go_loopw [4] (fun v4 wr => ∃ k : Nat, k ≤ len ∧ v4 = .int .i64 k ∧ RowUpTo wr w.heap.size 31 len k (fun i => .int .u32 (zs.getD i 0)) ∧ Below w.heap.size w wr) (fun v4 _ => len - (intOf v4).toNat)
  case atStart => exact ⟨0, Nat.zero_le _, rfl, hB1, hb1⟩
  case round =>
    obtain ⟨k, hk, rfl, hB, hb⟩ := hrel
    have HB := Lib.hid hB
    clear hB hB1 hb1
    by_cases hlt : k < len
    · obtain ⟨z, hz⟩ : ∃ z, zs.getD k 0 = z := ⟨_, rfl⟩
      have hc := later (HC.out k hlt) hb
      rw [hz] at hc
      obtain ⟨x0, q0⟩ := HB.out.old hlt
      have q2 := HB.out.frozen k
      have HS : Hid (RowUpTo (wr.setCell ⟨w.heap.size, k, none⟩ (.int .u32 z)) w.heap.size 31 len (k + 1) (fun i => .int .u32 (zs.getD i 0))) := by
        have := HB.out.step hlt
        rw [hz] at this
        exact this
      clear hz
      go_wp2
      go_roundw
      case rel => exact ⟨k + 1, by omega, by go_num, HS.out, by go_grown⟩
      case measure => simp [intOf]; omega
    · obtain rfl : k = len := by omega
      go_wp2
      go_ret
      exact ⟨rfl, HB.out, hb⟩

theorem info_ci : (Try.prog.info? 21).map (fun i => (i.zero, i.size, i.bytes)) = some (some (.int .i32 0), 1, 4) := by kernel_rfl

theorem ci_nil (w : World) : Calls Try.prog 8 #[.slice none 0 0] w fun e w' => e = .returned (.slice none 0 0) ∧ w = w' := by
  have hnil := fun W => Lib.run_eql_slice_nil (P := Try.prog) W 23 21 none 0 0 0 0 Try.underlying23
  go_enter Try.func8, Try.ntmps8
  go_wp2
  go_ret
  exact ⟨rfl, rfl⟩

theorem ci (x : Addr) (len cap : Nat) (zs : List Int) (w : World) (hn : len ≤ 1048576) (hcell : ∀ i, i < len → w.cell? (x.add i) = some (.int .i32 (zs.getD i 0))) :
    Calls Try.prog 8 #[.slice (some x) len cap] w fun e w' => e = .returned (.slice (some ⟨w.heap.size, 0, none⟩) len len) ∧ RowUpTo w' w.heap.size 21 len len (fun i => .int .i32 (zs.getD i 0)) ∧ Below w.heap.size w w' := by
  obtain ⟨i0, hi, hz0, hz1, hz2⟩ := info_parts info_ci
  have hnil := fun W => Lib.run_eql_slice_nil (P := Try.prog) W 23 21 (some x) len cap 0 0 Try.underlying23
  have HC := Lib.hid hcell
  clear hcell
  go_enter Try.func8, Try.ntmps8
  go_wp2_with (at_make; refine wpList_make_full _ rfl _ _ 23 rfl w.heap.size 21 i0 _ 1 Try.underlying23 hi hz0 hz1 .i64 .i64 _ _ len rfl rfl rfl rfl (by rw [hz2]; omega) (by unfold maxLen; omega) (Nat.le_refl _) ?_; intro w1 hown hgrow)
  clear hi hz0 hz1 hz2 i0 hnil
  obtain ⟨cs0, hr0, hs0, _⟩ := RowAt.of_owns hown
  have hb1 : Below w.heap.size w w1 := (Below.refl _ _).grown hgrow (Nat.le_refl _) (fun k hk => by cases hk)
  have hB1 : RowUpTo w1 w.heap.size 21 len 0 (fun i => .int .i32 (zs.getD i 0)) := RowUpTo.start hr0 (by omega) _
  clear hown hgrow hr0 hs0
  go_loopw [4] (fun v4 wr => ∃ k : Nat, k ≤ len ∧ v4 = .int .i64 k ∧ RowUpTo wr w.heap.size 21 len k (fun i => .int .i32 (zs.getD i 0)) ∧ Below w.heap.size w wr) (fun v4 _ => len - (intOf v4).toNat)
  case atStart => exact ⟨0, Nat.zero_le _, rfl, hB1, hb1⟩
  case round =>
    obtain ⟨k, hk, rfl, hB, hb⟩ := hrel
    have HB := Lib.hid hB
    clear hB hB1 hb1
    by_cases hlt : k < len
    · obtain ⟨z, hz⟩ : ∃ z, zs.getD k 0 = z := ⟨_, rfl⟩
      have hc := later (HC.out k hlt) hb
      rw [hz] at hc
      obtain ⟨x0, q0⟩ := HB.out.old hlt
      have q2 := HB.out.frozen k
      have HS : Hid (RowUpTo (wr.setCell ⟨w.heap.size, k, none⟩ (.int .i32 z)) w.heap.size 21 len (k + 1) (fun i => .int .i32 (zs.getD i 0))) := by
        have := HB.out.step hlt
        rw [hz] at this
        exact this
      clear hz
      go_wp2
      go_roundw
      case rel => exact ⟨k + 1, by omega, by go_num, HS.out, by go_grown⟩
      case measure => simp [intOf]; omega
    · obtain rfl : k = len := by omega
      go_wp2
      go_ret
      exact ⟨rfl, HB.out, hb⟩

theorem zb6 (a0 a1 a2 : Option Addr) (n0 n1 n2 c0 c1 c2 : Nat) (i j : Int) (w : World) (h0 : n0 ≤ 65536) (h1 : n1 ≤ 65536) (h2 : n2 ≤ 65536) :
    Calls Try.prog 6 #[.slice a0 n0 c0, .slice a1 n1 c1, .slice a2 n2 c2, .int .i64 i, .int .i64 j] w fun e w' => e = .returned (.bool true) ∧ w = w' := by
  go_enter Try.func6, Try.ntmps6
  go_wp2
  go_ret
  exact ⟨rfl, rfl⟩

theorem fld11 (s i l : Int) (w : World) : Calls Try.prog 11 #[.agg #[.int .u32 s, .int .u32 i, .int .i32 l]] w fun e w' => e = .returned (.tuple #[.int .u32 i, .int .u32 s, .int .i32 l]) ∧ Below w.heap.size w w' := by
  go_enter Try.func11, Try.ntmps11
  go_wp2_with fail
  go_quiet (fail)
  go_wp2_with fail
  refine bodyPost_ret (v := .tuple #[.int .u32 i, .int .u32 s, .int .i32 l]) (by simp [results, Try.results11, go_sem]) rfl ⟨rfl, below_drewN (by go_grown) _⟩

theorem mk23 (i s l : Int) (w : World) : Calls Try.prog 23 #[.int .u32 i, .int .u32 s, .int .i32 l] w fun e w' => e = .returned (.agg #[.int .u32 s, .int .u32 i, .int .i32 l]) ∧ Below w.heap.size w w' := by
  go_enter Try.func23, Try.ntmps23
  go_wp2_with fail
  refine bodyPost_ret (v := .agg #[.int .u32 s, .int .u32 i, .int .i32 l]) (by simp [results, Try.results23, go_sem]) rfl ⟨rfl, by go_grown⟩

end Go.Proofs.Ytmbbabikbmkjpaa.fnScopeMemberArraySwapExchangesExactlyTwo
