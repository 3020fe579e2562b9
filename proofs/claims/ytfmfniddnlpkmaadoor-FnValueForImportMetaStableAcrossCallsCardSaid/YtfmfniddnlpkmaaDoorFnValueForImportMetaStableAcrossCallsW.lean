import Derived.Test.YtfmfniddnlpkmaaDoorKit
import Derived.Test.YtfmfniddnlpkmaaDoorViH
namespace Go.Proofs.YtfmfniddnlpkmaaDoor.fnValueForImportMetaStableAcrossCalls
open Go.ChangeShapes Go.WideShapes Go.ChangeAt Go.RowKit
set_option linter.unusedVariables false
set_option maxRecDepth 100000
set_option maxHeartbeats 2000000

theorem early (a0 a1 a2 : Int) (a3 : Bool) (a4 a5 a6 a7 : Int) (w : World) (h : a4 < 0 ∨ 4096 < a4 ∨ a6 < 1 ∨ 64 < a6 ∨ 2 < a1 ∨ 3 < a2) :
    Calls Tryd.prog 3 #[.int .u64 a0, .int .u8 a1, .int .u8 a2, .bool a3, .int .i64 a4, .int .u32 a5, .int .i64 a6, .int .i32 a7] w fun e w' => e = .returned (.bool true) ∧ Below w.heap.size w w' := by
  by_cases h1 : a4 < 0
  · clear h
    go_enter Tryd.func3, Tryd.ntmps3
    go_wp2_with fail
    go_ret
    exact ⟨rfl, Below.refl _ _⟩
  by_cases h2 : 4096 < a4
  · clear h
    go_enter Tryd.func3, Tryd.ntmps3
    go_wp2_with fail
    go_ret
    exact ⟨rfl, Below.refl _ _⟩
  by_cases h3 : a6 < 1
  · clear h
    go_enter Tryd.func3, Tryd.ntmps3
    go_wp2_with fail
    go_ret
    exact ⟨rfl, Below.refl _ _⟩
  by_cases h4 : 64 < a6
  · clear h
    go_enter Tryd.func3, Tryd.ntmps3
    go_wp2_with fail
    go_ret
    exact ⟨rfl, Below.refl _ _⟩
  by_cases h5 : 2 < a1
  · clear h
    go_enter Tryd.func3, Tryd.ntmps3
    go_wp2_with fail
    go_ret
    exact ⟨rfl, Below.refl _ _⟩
  have h6 : 3 < a2 := by omega
  clear h
  go_enter Tryd.func3, Tryd.ntmps3
  go_wp2_with fail
  go_ret
  exact ⟨rfl, Below.refl _ _⟩

set_option maxHeartbeats 8000000 in
theorem mainN (a0 a1 a2 : Int) (a3 : Bool) (n : Nat) (a5 : Int) (k : Nat) (a7 : Int) (w : World) (hI : IR w) (hn : n ≤ 4096) (k1 : 1 ≤ k) (k2 : k ≤ 64) (m0 : 0 ≤ a1) (m1 : a1 ≤ 2) (f0 : 0 ≤ a2) (f1 : a2 ≤ 3) (hr : rew a0 a1 a2 = false) :
    Calls Tryd.prog 3 #[.int .u64 a0, .int .u8 a1, .int .u8 a2, .bool a3, .int .i64 n, .int .u32 a5, .int .i64 k, .int .i32 a7] w fun e w' => e = .returned (.bool true) ∧ Below w.heap.size w w' := by
  have H6 := Lib.hid (new6 a5 a0 a1 a2 n a3 w hn hI)
  have hB0 : 0 < w.heap.size := cell_lt hI.1
  have HI := Lib.hid hI
  clear hI
  go_enter Tryd.func3, Tryd.ntmps3
  go_wp2_with fail
  refine H6.out.mono ?_
  clear H6
  rintro e w1 ⟨p, rfl, hA, hb1⟩
  have H7 := Lib.hid (zz7N w.heap.size p a5 a0 a1 a2 a7 n a3 w1 hA hr)
  have HB1 := Lib.hid hb1
  clear hA hb1
  go_wp2_with fail
  refine H7.out.mono ?_
  clear H7
  rintro e w2 ⟨rfl, hA, hb2⟩
  have HA := Lib.hid hA
  have HB2 := Lib.hid (HB1.out.trans hb2)
  clear hA hb2 HB1
  go_wp2_with fail
  go_loopw [23] (fun v23 wr => ∃ j : Nat, 1 ≤ j ∧ j ≤ k ∧ v23 = .int .i64 j ∧ StA wr w.heap.size p a5 a0 a1 a2 n a3 ∧ Below w.heap.size w wr) (fun v23 _ => k - (intOf v23).toNat)
  case atStart => exact ⟨1, Nat.le_refl _, k1, rfl, HA.out, HB2.out⟩
  case round =>
    clear HA HB2
    obtain ⟨j, hj1, hj, rfl, hA, hb⟩ := hrel
    by_cases hlt : j < k
    · have H7 := Lib.hid (zz7N w.heap.size p a5 a0 a1 a2 a7 n a3 wr hA hr)
      have HB := Lib.hid hb
      clear hA hb
      go_wp2_with fail
      refine H7.out.mono ?_
      clear H7
      rintro e w3 ⟨rfl, hA, hb3⟩
      have HA := Lib.hid hA
      have HB3 := Lib.hid (HB.out.trans hb3)
      clear hA hb3 HB
      go_wp2_with fail
      go_roundw
      case rel => exact ⟨j + 1, by omega, by omega, by go_num, HA.out, HB3.out⟩
      case measure => simp [intOf]; omega
    · obtain rfl : j = k := by omega
      have H8 := Lib.hid (fun W (h : wr = W) => h ▸ cnt8A w.heap.size p a5 a0 a1 a2 n a3 wr hA)
      have H9 := Lib.hid (fun W (h : wr = W) => h ▸ gen9A w.heap.size p a5 a0 a1 a2 n a3 wr hA)
      have HB := Lib.hid hb
      clear hA hb
      go_wp2_with (first | (go_at_call 8; refine (H8.out _ rfl).mono ?_; rintro e wx ⟨rfl, rfl⟩) | (go_at_call 9; refine (H9.out _ rfl).mono ?_; rintro e wx ⟨rfl, rfl⟩))
      go_ret
      exact ⟨rfl, HB.out⟩

set_option maxHeartbeats 8000000 in
theorem mainY (a0 a1 a2 : Int) (a3 : Bool) (n : Nat) (a5 : Int) (k : Nat) (a7 : Int) (w : World) (hI : IR w) (hn : n ≤ 4096) (k1 : 1 ≤ k) (k2 : k ≤ 64) (m0 : 0 ≤ a1) (m1 : a1 ≤ 2) (f0 : 0 ≤ a2) (f1 : a2 ≤ 3) (hr : rew a0 a1 a2 = true) :
    Calls Tryd.prog 3 #[.int .u64 a0, .int .u8 a1, .int .u8 a2, .bool a3, .int .i64 n, .int .u32 a5, .int .i64 k, .int .i32 a7] w fun e w' => e = .returned (.bool true) ∧ Below w.heap.size w w' := by
  have H6 := Lib.hid (new6 a5 a0 a1 a2 n a3 w hn hI)
  have hB0 : 0 < w.heap.size := cell_lt hI.1
  have HI := Lib.hid hI
  clear hI
  go_enter Tryd.func3, Tryd.ntmps3
  go_wp2_with fail
  refine H6.out.mono ?_
  clear H6
  rintro e w1 ⟨p, rfl, hA, hb1⟩
  have hI1 : IR w1 := HI.out.below hb1
  have H7 := Lib.hid (zz7A w.heap.size p a5 a0 a1 a2 a7 n a3 w1 hn hI1 hB0 hA hr)
  have HB1 := Lib.hid hb1
  clear hA hb1 hI1
  go_wp2_with fail
  refine H7.out.mono ?_
  clear H7
  rintro e w2 ⟨rfl, hA, hb2⟩
  have HA := Lib.hid hA
  have HB2 := Lib.hid (HB1.out.trans hb2)
  clear hA hb2 HB1
  go_wp2_with fail
  go_loopw [23] (fun v23 wr => ∃ j : Nat, 1 ≤ j ∧ j ≤ k ∧ v23 = .int .i64 j ∧ StU wr w.heap.size p a5 a0 a1 a2 n a3 j ∧ Below w.heap.size w wr) (fun v23 _ => k - (intOf v23).toNat)
  case atStart => exact ⟨1, Nat.le_refl _, k1, rfl, HA.out, HB2.out⟩
  case round =>
    clear HA HB2
    obtain ⟨j, hj1, hj, rfl, hA, hb⟩ := hrel
    by_cases hlt : j < k
    · have H7 := Lib.hid (zz7B w.heap.size p a5 a0 a1 a2 a7 n a3 j wr hn (by omega) (HI.out.below hb) hB0 hA hr)
      have HB := Lib.hid hb
      clear hA hb
      go_wp2_with fail
      refine H7.out.mono ?_
      clear H7
      rintro e w3 ⟨rfl, hA, hb3⟩
      have HA := Lib.hid hA
      have HB3 := Lib.hid (HB.out.trans hb3)
      clear hA hb3 HB
      go_wp2_with fail
      go_roundw
      case rel => exact ⟨j + 1, by omega, by omega, by go_num, HA.out, HB3.out⟩
      case measure => simp [intOf]; omega
    · obtain rfl : j = k := by omega
      have H8 := Lib.hid (fun W (h : wr = W) => h ▸ cnt8B w.heap.size p a5 a0 a1 a2 n a3 j wr hA)
      have H9 := Lib.hid (fun W (h : wr = W) => h ▸ gen9B w.heap.size p a5 a0 a1 a2 n a3 j wr hA)
      have H10 := Lib.hid (fun W (h : wr = W) => h ▸ use10 w.heap.size p a5 a0 a1 a2 n a3 j wr hA)
      have HB := Lib.hid hb
      clear hA hb
      go_wp2_with (first | (go_at_call 8; refine (H8.out _ rfl).mono ?_; rintro e wx ⟨rfl, rfl⟩) | (go_at_call 9; refine (H9.out _ rfl).mono ?_; rintro e wx ⟨rfl, rfl⟩) | (go_at_call 10; refine (H10.out _ rfl).mono ?_; rintro e wx ⟨rfl, rfl⟩))
      go_ret
      exact ⟨rfl, HB.out⟩

theorem bounds_u8 {n : Int} (h : (Lit.int .u8 n).wf = true) : 0 ≤ n ∧ n ≤ 255 := by
  simp only [Lit.wf, Bool.and_eq_true, decide_eq_true_eq] at h
  exact ⟨h.1, h.2⟩
theorem walk (a0 a1 a2 : Int) (a3 : Bool) (a4 a5 a6 a7 : Int) (w : World) (w0 : (Lit.int .u64 a0).wf = true) (w1 : (Lit.int .u8 a1).wf = true) (w2 : (Lit.int .u8 a2).wf = true) (w4 : (Lit.int .i64 a4).wf = true) (w5 : (Lit.int .u32 a5).wf = true) (w6 : (Lit.int .i64 a6).wf = true) (w7 : (Lit.int .i32 a7).wf = true) (hI : IR w) :
    Calls Tryd.prog 3 #[.int .u64 a0, .int .u8 a1, .int .u8 a2, .bool a3, .int .i64 a4, .int .u32 a5, .int .i64 a6, .int .i32 a7] w fun e w' => e = .returned (.bool true) ∧ Below w.heap.size w w' := by
  by_cases h : a4 < 0 ∨ 4096 < a4 ∨ a6 < 1 ∨ 64 < a6 ∨ 2 < a1 ∨ 3 < a2
  · exact early a0 a1 a2 a3 a4 a5 a6 a7 w h
  · obtain ⟨n, rfl⟩ : ∃ n : Nat, a4 = n := ⟨a4.toNat, by omega⟩
    obtain ⟨k, rfl⟩ : ∃ k : Nat, a6 = k := ⟨a6.toNat, by omega⟩
    obtain ⟨p1, q1⟩ := bounds_u8 w1
    obtain ⟨p2, q2⟩ := bounds_u8 w2
    cases hr : rew a0 a1 a2 with
    | false => exact mainN a0 a1 a2 a3 n a5 k a7 w hI (by omega) (by omega) (by omega) p1 (by omega) p2 (by omega) hr
    | true => exact mainY a0 a1 a2 a3 n a5 k a7 w hI (by omega) (by omega) (by omega) p1 (by omega) p2 (by omega) hr

end Go.Proofs.YtfmfniddnlpkmaaDoor.fnValueForImportMetaStableAcrossCalls
