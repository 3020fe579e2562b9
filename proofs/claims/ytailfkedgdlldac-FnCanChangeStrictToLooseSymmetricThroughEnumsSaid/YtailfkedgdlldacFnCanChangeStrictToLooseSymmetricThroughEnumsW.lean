import Derived.Test.YtailfkedgdlldacKit
import Derived.Test.YtailfkedgdlldacCanC
namespace Go.Proofs.Ytailfkedgdlldac.fnCanChangeStrictToLooseSymmetricThroughEnums
open Go.ChangeShapes Go.WideShapes Go.ChangeAt Go.RowKit
set_option linter.unusedVariables false
set_option maxRecDepth 100000
set_option maxHeartbeats 2000000

theorem walk (a0 : Bool) (a1 : Int) (a2 : Int) (a3 : Int) (a4 : Bool) (a5 : Int) (a6 : Int) (a7 : Int) (w : World) (w1 : (Lit.int .u8 a1).wf = true) (w2 : (Lit.int .u8 a2).wf = true) (w3 : (Lit.int .u8 a3).wf = true) (w5 : (Lit.int .u8 a5).wf = true) (w6 : (Lit.int .u8 a6).wf = true) (w7 : (Lit.int .u8 a7).wf = true) :
    Calls Try.prog 3 #[.bool a0, .int .u8 a1, .int .u8 a2, .int .u8 a3, .bool a4, .int .u8 a5, .int .u8 a6, .int .u8 a7] w fun e w' => e = .returned (.bool true) ∧ Below w.heap.size w w' := by
  have b1 := bounds_u8 w1
  have b2 := bounds_u8 w2
  have b3 := bounds_u8 w3
  have b5 := bounds_u8 w5
  have b6 := bounds_u8 w6
  have b7 := bounds_u8 w7
  clear w1 w2 w3 w5 w6 w7
  go_enter Try.func3, Try.ntmps3
  go_wp2_with fail
  refine (build a0 a1 a2 _ b1.1 b2.1).mono ?_
  rintro e u1 ⟨va, ta, rfl, pa, q1⟩
  obtain ⟨da, rfl, ha, ka⟩ := pa
  have hsta := fun (A : Addr) (W : World) (m : Mode) => run_store Try.prog W A da m ha
  have KA := Lib.hid ka
  clear ka
  go_wp2_with fail
  refine (build a4 a5 a6 _ b5.1 b6.1).mono ?_
  rintro e u2 ⟨vb, tb, rfl, pb, q2⟩
  obtain ⟨db, rfl, hb, kb⟩ := pb
  have hstb := fun (A : Addr) (W : World) (m : Mode) => run_store Try.prog W A db m hb
  have KB := Lib.hid kb
  have ra : RowAt u2 u1.heap.size #[da, .int .i32 0] 27 := (RowAt.new u1 _ _).below q2 (by go_size)
  have B12 : Below u1.heap.size u1 u2 := Below.trans (by go_grown) (q2.mono (by go_size))
  have B2 : Below w.heap.size w u2 := q1.trans (B12.mono q1.size)
  have ca0 := ra.cellv (j := 0) rfl
  have ca1 := ra.cellv (j := 1) rfl
  have zl := ra.lt
  have RA := Lib.hid ra
  clear kb q2 ra q1
  go_wp2_with fail
  refine (can _ _ tb ta _ ⟨db, rfl, hb, KB.out.below (by go_grown)⟩ ⟨da, rfl, ha, KA.out.below (B12.trans (by go_grown))⟩).mono ?_
  rintro e u4 ⟨rfl, q4⟩
  have rb : RowAt u4 u2.heap.size #[db, .int .i32 0] 27 := (RowAt.new u2 _ _).below q4 (by go_size)
  have ra4 : RowAt u4 u1.heap.size #[da, .int .i32 0] 27 := (RA.out.alloc _).below q4 (by go_size)
  have B24 : Below u2.heap.size u2 u4 := Below.trans (by go_grown) (q4.mono (by go_size))
  have B4 : Below w.heap.size w u4 := B2.trans (B24.mono B2.size)
  have PA : Hid (PExpr u4 (.agg #[da, .int .i32 0]) ta) := ⟨da, rfl, ha, (KA.out.below B12).below B24⟩
  have PB : Hid (PExpr u4 (.agg #[db, .int .i32 0]) tb) := ⟨db, rfl, hb, KB.out.below B24⟩
  have da0 := ra4.cellv (j := 0) rfl
  have da1 := ra4.cellv (j := 1) rfl
  have db0 := rb.cellv (j := 0) rfl
  have db1 := rb.cellv (j := 1) rfl
  have z1 := ra4.lt
  have z2 := rb.lt
  obtain ⟨C, hC⟩ : ∃ C, canS tb ta = C := ⟨_, rfl⟩
  have HC := Lib.hid hC
  have HC2 : Hid (canS ta tb = C) := by unfold Hid; rw [canS_comm]; exact hC
  rw [hC]
  clear hC KA KB RA q4 B12 B24 B2 ca0 ca1 zl ra4 rb
  go_wp2_with fail
  go_region_with (first | (go_at_call 9; ((with_reducible refine (wrap (.agg #[da, .int .i32 0]) ta a3 _ (PA.out.below (by go_grown)) b3.1 b3.2).mono ?_); rintro e u5 ⟨v5, rfl, p5, q5⟩; have P5 := Lib.hid p5; have q5' := Lib.hid (show Below u4.heap.size u4 u5 from Below.trans (by go_grown) (q5.mono (Nat.le_refl _))); have x0 : u5.cell? ⟨u2.heap.size, 0, none⟩ = some db := (q5.cell (p := ⟨u2.heap.size, 0, none⟩) z2).trans db0; have x1 : u5.cell? ⟨u2.heap.size, 1, none⟩ = some (.int .i32 0) := (q5.cell (p := ⟨u2.heap.size, 1, none⟩) z2).trans db1; clear p5 q5)) | (go_at_call 9; ((with_reducible refine (wrap (.agg #[db, .int .i32 0]) tb a7 _ (PB.out.below q5'.out) b7.1 b7.2).mono ?_); rintro e u6 ⟨v6, rfl, p6, q6⟩; have P6 := Lib.hid p6; have P56 := Lib.hid (P5.out.below q6); have q6' := Lib.hid q6; clear p6 q6)) | (go_at_call 8; ((with_reducible refine (can v5 v6 ta tb _ P56.out P6.out).mono ?_); rintro e u7 ⟨rfl, q7⟩; have q7' := Lib.hid q7; clear q7)))
  all_goals
    rw [HC2.out]
    have Z : Below w.heap.size w u7 := B4.trans (((q5'.out.trans (q6'.out.mono q5'.out.size)).trans (q7'.out.mono (Nat.le_trans q5'.out.size q6'.out.size))).mono B4.size)
    clear HC HC2
    cases C
    · go_wp2_with fail
      go_ret
      exact ⟨rfl, Z⟩
    · go_wp2_with fail
      go_ret
      exact ⟨rfl, Z⟩

end Go.Proofs.Ytailfkedgdlldac.fnCanChangeStrictToLooseSymmetricThroughEnums
