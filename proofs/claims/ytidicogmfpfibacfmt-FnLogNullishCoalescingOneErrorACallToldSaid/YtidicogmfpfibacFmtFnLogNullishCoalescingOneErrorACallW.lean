import Derived.Test.YtidicogmfpfibacFmtKit
import Derived.Test.YtidicogmfpfibacFmtLnJ
namespace Go.Proofs.YtidicogmfpfibacFmt.fnLogNullishCoalescingOneErrorACall
open Go.ChangeShapes Go.WideShapes Go.ChangeAt Go.RowKit
set_option linter.unusedVariables false
set_option maxRecDepth 100000
set_option maxHeartbeats 2000000

open Go.MuLone Go.Extern.Stop Go.Stop Go.Extern
theorem ml1 (g : Nat) (tx : ByteArray) : MsgList 1 (fun _ => (some ⟨g, 0, none⟩, 1, 1)) (fun _ => tx) ([] ++ msgV (.slice (some ⟨g, 0, none⟩) 1 1) (.pointer none) tx) := fun i hi => by
  obtain rfl : i = 0 := by omega
  rfl
theorem ml2 (g g' : Nat) (tx tx' : ByteArray) : MsgList 2 (fun i => (some ⟨if i = 0 then g else g', 0, none⟩, 1, 1)) (fun i => if i = 0 then tx else tx') ([] ++ msgV (.slice (some ⟨g, 0, none⟩) 1 1) (.pointer none) tx ++ msgV (.slice (some ⟨g', 0, none⟩) 1 1) (.pointer none) tx') := fun i hi => by
  obtain rfl | rfl : i = 0 ∨ i = 1 := by omega
  · rfl
  · rfl
theorem msg_cell {W : World} {g n : Nat} {Nt : Nat → Option Addr × Nat × Nat} {T : Nat → ByteArray} {cs : Array Value} (H : Msgs W g n Nt (fun _ => none) T cs) {i : Nat} (hi : i < n) :
    W.cell? ⟨g, i * 8, none⟩ = some (.slice (Nt i).1 (Nt i).2.1 (Nt i).2.2) ∧ W.cell? ⟨g, i * 8 + 6, none⟩ = some (.int .u8 0) := by
  have h := rangeAt_mid H.row (i * 8) (msgV (.slice (Nt i).1 (Nt i).2.1 (Nt i).2.2) (.pointer none) (T i)) (H.at8 i hi)
  exact ⟨h 0 _ rfl, h 6 _ rfl⟩
set_option maxHeartbeats 8000000 in
theorem walk (F : Interp) (x : ByteArray) (m : Int) (w : World) (hF : F.answers w.tape) : Calls Tryf.prog 3 #[.string x, .int .u8 m] w fun e w' => e = .returned (.bool true) ∧ Below w.heap.size w w' := by
  have HF := Lib.hid hF
  clear hF
  go_enter Tryf.func3, Tryf.ntmps3
  go_wp2_with fail
  refine (zz4 x m _).mono ?_
  rintro e0 w0 ⟨b, rfl, rfl⟩
  cases b with
  | false =>
    go_wp2_with fail
    go_ret
    exact ⟨rfl, below_drewN (Below.refl _ _) 0⟩
  | true =>
    by_cases hl : 1048576 < (x.size : Int)
    · go_wp2_with fail
      go_ret
      exact ⟨rfl, below_drewN (Below.refl _ _) 0⟩
    · go_wp2_with fail
      refine (newpar5 w w.heap.size (Nat.le_refl _) m).mono ?_
      rintro e1 w1 ⟨p, k, mu, he, ms, rfl, l1, pl1, b1⟩
      have H1 := Lib.hid (And.intro l1 (And.intro pl1 b1))
      clear l1 pl1 b1
      go_wp2_with fail
      refine (zz6 F p k mu he ms m x w.heap.size _ 0 [] w1 (H1.out.2.2.tape ▸ HF.out) H1.out.1 H1.out.2.1 (by omega)).mono ?_
      rintro e2 w2 ⟨⟨rfl, v2, g, tx, l2, _, b2⟩, pl2⟩
      have H2 := Lib.hid (And.intro l2 (And.intro pl2 (H1.out.2.2.trans b2)))
      clear l2 pl2 b2 H1
      go_wp2_with fail
      refine (msgs7 w.heap.size p k mu he ms m 0 v2 1 _ _ _ w2 H2.out.1 H2.out.2.1 (ml1 g tx) (by omega)).mono ?_
      rintro e3 w3 ⟨rfl, l3, b3, k3⟩
      obtain ⟨g3, c3, rfl⟩ := own_succ l3.own
      obtain ⟨cs3, s3⟩ := own_msgs l3.own (ml1 g tx)
      obtain ⟨q0, q6⟩ := msg_cell s3 (i := 0) (by omega)
      have H3 := Lib.hid (H2.out.2.2.trans b3)
      clear l3 b3 k3 H2 s3
      go_wp2_with fail
      refine (newpar5 _ _ (Nat.le_refl _) m).mono ?_
      rintro e4 w4 ⟨p', k', mu', he', ms', rfl, l4, pl4, b4⟩
      have H4 := Lib.hid (And.intro l4 (And.intro pl4 (H3.out.trans (b4.mono H3.out.size))))
      clear l4 pl4 b4 q0 q6
      have hB : w.heap.size ≤ w4.heap.size := H4.out.2.2.size
      have l4' : LG w.heap.size k' mu' he' ms' 0 (.slice none 0 0) 0 [] w4 := ⟨H4.out.1.rk, H4.out.1.rm, H4.out.1.rh, H4.out.1.rs, ⟨rfl, .inl ⟨rfl, rfl⟩⟩, hB, Nat.le_trans H3.out.size H4.out.1.bk, Nat.le_trans H3.out.size H4.out.1.bm, Nat.le_trans H3.out.size H4.out.1.bh, Nat.le_trans H3.out.size H4.out.1.bs⟩
      have L4 := Lib.hid l4'
      clear l4' hB
      go_wp2_with fail
      refine (zz6 F p' k' mu' he' ms' m x w.heap.size _ 0 [] w4 (H4.out.2.2.tape ▸ HF.out) L4.out H4.out.2.1 (by omega)).mono ?_
      rintro e5 w5 ⟨⟨rfl, v5, g5, tx5, l5, _, b5⟩, pl5⟩
      have H5 := Lib.hid (And.intro l5 (And.intro pl5 (H4.out.2.2.trans b5)))
      clear l5 pl5 b5 H4 L4
      go_wp2_with fail
      refine (zz6 F p' k' mu' he' ms' m x w.heap.size _ 1 _ w5 (H5.out.2.2.tape ▸ HF.out) H5.out.1 H5.out.2.1 (by omega)).mono ?_
      rintro e6 w6 ⟨⟨rfl, v6, g6, tx6, l6, _, b6⟩, pl6⟩
      have H6 := Lib.hid (And.intro l6 (And.intro pl6 (H5.out.2.2.trans b6)))
      clear l6 pl6 b6 H5
      go_wp2_with fail
      refine (msgs7 w.heap.size p' k' mu' he' ms' m 0 v6 2 _ _ _ w6 H6.out.1 H6.out.2.1 (ml2 g5 g6 tx5 tx6) (by omega)).mono ?_
      rintro e7 w7 ⟨rfl, l7, b7, k7⟩
      obtain ⟨g7, c7, rfl⟩ := own_succ l7.own
      obtain ⟨cs7, s7⟩ := own_msgs l7.own (ml2 g5 g6 tx5 tx6)
      have H7 := Lib.hid (And.intro s7 (H6.out.2.2.trans b7))
      clear l7 b7 k7 H6 s7
      go_wp2_with fail
      go_loopw [9] (fun v9 wr => ∃ j : Nat, j ≤ 2 ∧ v9 = .int .i64 j ∧ wr = w7) (fun v9 _ => 2 - (intOf v9).toNat)
      case atStart => exact ⟨0, by omega, rfl, rfl⟩
      case round =>
        obtain ⟨j, hj, rfl, rfl⟩ := hrel
        by_cases hlt : j < 2
        · obtain ⟨y0, y6⟩ := msg_cell H7.out.1 hlt
          go_wp2_with fail
          go_roundw
          case rel => exact ⟨j + 1, by omega, by go_num, by first | rfl | trivial⟩
          case measure => simp [intOf]; omega
        · obtain rfl : j = 2 := by omega
          go_wp2
          go_ret
          exact ⟨rfl, H7.out.2⟩

end Go.Proofs.YtidicogmfpfibacFmt.fnLogNullishCoalescingOneErrorACall
