import Derived.Test.YtjngpnijogfmdacKit
import Derived.Test.YtjngpnijogfmdacTiF
namespace Go.Proofs.Ytjngpnijogfmdac.fnTryToInsertOptionalChainMarksExactlyTheTail
open Go.ChangeShapes Go.WideShapes Go.ChangeAt Go.RowKit
set_option linter.unusedVariables false
set_option maxRecDepth 100000
set_option maxHeartbeats 2000000

open Go.RowKit
theorem try_dot1 (Tt ut T v u : Nat) (nm : ByteArray) (w : World) (h : RowAt w u (dotRow T v nm 0) 54) (HV : ∀ W, Below w.heap.size w W → Calls Try.prog 14 #[.iface Tt (.pointer (some ⟨ut, 0, none⟩)), .iface T (.pointer (some ⟨v, 0, none⟩))] W (Vls W true)) :
    Calls Try.prog 9 #[.agg #[.iface Tt (.pointer (some ⟨ut, 0, none⟩)), .int .i32 0], .agg #[.iface 42 (.pointer (some ⟨u, 0, none⟩)), .int .i32 0]] w fun e w' => e = .returned (.bool true) ∧ ∃ W, Below w.heap.size w W ∧ w' = W.setCell ⟨u, 4, none⟩ (.int .u8 1) := by
  have hst := fun (A : Addr) (W : World) (m : Mode) => run_store Try.prog W A (.iface Tt (.pointer (some ⟨ut, 0, none⟩))) m rfl
  have hu := h.lt
  have hb2 : Below w.heap.size w ((w.alloc (.cells #[.iface Tt (.pointer (some ⟨ut, 0, none⟩)), .int .i32 0] 34)).alloc (.cells #[.iface 42 (.pointer (some ⟨u, 0, none⟩)), .int .i32 0] 34)) := by go_grown
  have c0 := fun m => (RowAt.drewN (RowAt.below h hb2 hu) m).cellv (j := 0) (v := .iface T (.pointer (some ⟨v, 0, none⟩))) rfl
  have HQ := Lib.hid (fun m => quietly (w := ((w.alloc (.cells #[.iface Tt (.pointer (some ⟨ut, 0, none⟩)), .int .i32 0] 34)).alloc (.cells #[.iface 42 (.pointer (some ⟨u, 0, none⟩)), .int .i32 0] 34))) (n := m) (v := .bool true) (HV _ (below_drewN hb2 m)))
  have HR := Lib.hid h
  have HB := Lib.hid hb2
  clear h hb2 HV
  go_enter Try.func9, Try.ntmps9
  go_wp2_with fail
  go_quiet ((go_at_call 14; exact HQ.out _))
  have hB : Hid (Below w.heap.size w (((w.alloc (.cells #[.iface Tt (.pointer (some ⟨ut, 0, none⟩)), .int .i32 0] 34)).alloc (.cells #[.iface 42 (.pointer (some ⟨u, 0, none⟩)), .int .i32 0] 34)).drewN nq)) := below_drewN HB.out nq
  have r0 : RowAt (((w.alloc (.cells #[.iface Tt (.pointer (some ⟨ut, 0, none⟩)), .int .i32 0] 34)).alloc (.cells #[.iface 42 (.pointer (some ⟨u, 0, none⟩)), .int .i32 0] 34)).drewN nq) w.heap.size #[.iface Tt (.pointer (some ⟨ut, 0, none⟩)), .int .i32 0] 34 := (RowAt.new w _ _).alloc _
  generalize hW : (((w.alloc (.cells #[.iface Tt (.pointer (some ⟨ut, 0, none⟩)), .int .i32 0] 34)).alloc (.cells #[.iface 42 (.pointer (some ⟨u, 0, none⟩)), .int .i32 0] 34)).drewN nq) = W at hB r0 ⊢
  clear hW c0 HQ HB
  have hr := HR.out.below hB.out hu
  have zu := hr.lt
  have d4 := hr.cellv (j := 4) (v := .int .u8 0) rfl
  have f4 := hr.frozen 4
  clear hr r0
  go_wp2_with fail
  go_ret
  exact ⟨rfl, W, hB.out, rfl⟩

theorem try_dot2 (Tt ut T v u : Nat) (nm : ByteArray) (w : World) (h : RowAt w u (dotRow T v nm 0) 54) (HV : ∀ W, Below w.heap.size w W → Calls Try.prog 14 #[.iface Tt (.pointer (some ⟨ut, 0, none⟩)), .iface T (.pointer (some ⟨v, 0, none⟩))] W (Vls W false)) (PI : World → World → Prop) (HI : ∀ W, Below w.heap.size w W → Calls Try.prog 9 #[.agg #[.iface Tt (.pointer (some ⟨ut, 0, none⟩)), .int .i32 0], .agg #[.iface T (.pointer (some ⟨v, 0, none⟩)), .int .i32 0]] W fun e w' => e = .returned (.bool true) ∧ PI W w') (HP : ∀ W w', Below w.heap.size w W → PI W w' → w'.heap[u]? = W.heap[u]?) :
    Calls Try.prog 9 #[.agg #[.iface Tt (.pointer (some ⟨ut, 0, none⟩)), .int .i32 0], .agg #[.iface 42 (.pointer (some ⟨u, 0, none⟩)), .int .i32 0]] w fun e w' => e = .returned (.bool true) ∧ ∃ W W2, Below w.heap.size w W ∧ PI W W2 ∧ w' = W2.setCell ⟨u, 4, none⟩ (.int .u8 2) := by
  have hst := fun (A : Addr) (W : World) (m : Mode) => run_store Try.prog W A (.iface Tt (.pointer (some ⟨ut, 0, none⟩))) m rfl
  have hu := h.lt
  have hb2 : Below w.heap.size w ((w.alloc (.cells #[.iface Tt (.pointer (some ⟨ut, 0, none⟩)), .int .i32 0] 34)).alloc (.cells #[.iface 42 (.pointer (some ⟨u, 0, none⟩)), .int .i32 0] 34)) := by go_grown
  have c0 := fun m => (RowAt.drewN (RowAt.below h hb2 hu) m).cellv (j := 0) (v := .iface T (.pointer (some ⟨v, 0, none⟩))) rfl
  have HQ := Lib.hid (fun m => quietly (w := ((w.alloc (.cells #[.iface Tt (.pointer (some ⟨ut, 0, none⟩)), .int .i32 0] 34)).alloc (.cells #[.iface 42 (.pointer (some ⟨u, 0, none⟩)), .int .i32 0] 34))) (n := m) (v := .bool false) (HV _ (below_drewN hb2 m)))
  have HR := Lib.hid h
  have HB := Lib.hid hb2
  have HI' := Lib.hid HI
  have HP' := Lib.hid HP
  clear h hb2 HV HI HP
  go_enter Try.func9, Try.ntmps9
  go_wp2_with fail
  go_quiet ((go_at_call 14; exact HQ.out _))
  have hB : Hid (Below w.heap.size w (((w.alloc (.cells #[.iface Tt (.pointer (some ⟨ut, 0, none⟩)), .int .i32 0] 34)).alloc (.cells #[.iface 42 (.pointer (some ⟨u, 0, none⟩)), .int .i32 0] 34)).drewN nq)) := below_drewN HB.out nq
  have r0 : RowAt (((w.alloc (.cells #[.iface Tt (.pointer (some ⟨ut, 0, none⟩)), .int .i32 0] 34)).alloc (.cells #[.iface 42 (.pointer (some ⟨u, 0, none⟩)), .int .i32 0] 34)).drewN nq) w.heap.size #[.iface Tt (.pointer (some ⟨ut, 0, none⟩)), .int .i32 0] 34 := (RowAt.new w _ _).alloc _
  generalize hW : (((w.alloc (.cells #[.iface Tt (.pointer (some ⟨ut, 0, none⟩)), .int .i32 0] 34)).alloc (.cells #[.iface 42 (.pointer (some ⟨u, 0, none⟩)), .int .i32 0] 34)).drewN nq) = W at hB r0 ⊢
  clear hW c0 HQ HB
  have hr := HR.out.below hB.out hu
  have zu := hr.lt
  have d0 := hr.cellv (j := 0) (v := .iface T (.pointer (some ⟨v, 0, none⟩))) rfl
  have d1 := hr.cellv (j := 1) (v := .int .i32 0) rfl
  have t0 := r0.cellv (j := 0) (v := .iface Tt (.pointer (some ⟨ut, 0, none⟩))) rfl
  have t1 := r0.cellv (j := 1) (v := .int .i32 0) rfl
  have zt := r0.lt
  have HR2 := Lib.hid hr
  clear hr r0
  go_wp2_with fail
  go_region_with ((go_at_call 9; (with_reducible refine (HI'.out _ hB.out.drew).mono ?_); rintro e w3 ⟨rfl, h3⟩; have e3 := HP'.out _ _ hB.out.drew h3; have hr3 : RowAt w3 u (dotRow T v nm 0) 54 := e3.trans HR2.out; have H3 := Lib.hid h3; clear h3 e3))
  all_goals
    have g4 := hr3.cellv (j := 4) (v := .int .u8 0) rfl
    have k4 := hr3.frozen 4
    have z3 := hr3.lt
    clear hr3
    go_wp2_with fail
    go_ret
    exact ⟨rfl, _, _, hB.out.drew, H3.out, rfl⟩

theorem try_dot3 (Tt ut T v u : Nat) (nm : ByteArray) (w : World) (h : RowAt w u (dotRow T v nm 0) 54) (HV : ∀ W, Below w.heap.size w W → Calls Try.prog 14 #[.iface Tt (.pointer (some ⟨ut, 0, none⟩)), .iface T (.pointer (some ⟨v, 0, none⟩))] W (Vls W false)) (PI : World → World → Prop) (HI : ∀ W, Below w.heap.size w W → Calls Try.prog 9 #[.agg #[.iface Tt (.pointer (some ⟨ut, 0, none⟩)), .int .i32 0], .agg #[.iface T (.pointer (some ⟨v, 0, none⟩)), .int .i32 0]] W fun e w' => e = .returned (.bool false) ∧ PI W w') (HP : ∀ W w', Below w.heap.size w W → PI W w' → w'.heap[u]? = W.heap[u]?) :
    Calls Try.prog 9 #[.agg #[.iface Tt (.pointer (some ⟨ut, 0, none⟩)), .int .i32 0], .agg #[.iface 42 (.pointer (some ⟨u, 0, none⟩)), .int .i32 0]] w fun e w' => e = .returned (.bool false) ∧ ∃ W, Below w.heap.size w W ∧ PI W w' := by
  have hst := fun (A : Addr) (W : World) (m : Mode) => run_store Try.prog W A (.iface Tt (.pointer (some ⟨ut, 0, none⟩))) m rfl
  have hu := h.lt
  have hb2 : Below w.heap.size w ((w.alloc (.cells #[.iface Tt (.pointer (some ⟨ut, 0, none⟩)), .int .i32 0] 34)).alloc (.cells #[.iface 42 (.pointer (some ⟨u, 0, none⟩)), .int .i32 0] 34)) := by go_grown
  have c0 := fun m => (RowAt.drewN (RowAt.below h hb2 hu) m).cellv (j := 0) (v := .iface T (.pointer (some ⟨v, 0, none⟩))) rfl
  have HQ := Lib.hid (fun m => quietly (w := ((w.alloc (.cells #[.iface Tt (.pointer (some ⟨ut, 0, none⟩)), .int .i32 0] 34)).alloc (.cells #[.iface 42 (.pointer (some ⟨u, 0, none⟩)), .int .i32 0] 34))) (n := m) (v := .bool false) (HV _ (below_drewN hb2 m)))
  have HR := Lib.hid h
  have HB := Lib.hid hb2
  have HI' := Lib.hid HI
  have HP' := Lib.hid HP
  clear h hb2 HV HI HP
  go_enter Try.func9, Try.ntmps9
  go_wp2_with fail
  go_quiet ((go_at_call 14; exact HQ.out _))
  have hB : Hid (Below w.heap.size w (((w.alloc (.cells #[.iface Tt (.pointer (some ⟨ut, 0, none⟩)), .int .i32 0] 34)).alloc (.cells #[.iface 42 (.pointer (some ⟨u, 0, none⟩)), .int .i32 0] 34)).drewN nq)) := below_drewN HB.out nq
  have r0 : RowAt (((w.alloc (.cells #[.iface Tt (.pointer (some ⟨ut, 0, none⟩)), .int .i32 0] 34)).alloc (.cells #[.iface 42 (.pointer (some ⟨u, 0, none⟩)), .int .i32 0] 34)).drewN nq) w.heap.size #[.iface Tt (.pointer (some ⟨ut, 0, none⟩)), .int .i32 0] 34 := (RowAt.new w _ _).alloc _
  generalize hW : (((w.alloc (.cells #[.iface Tt (.pointer (some ⟨ut, 0, none⟩)), .int .i32 0] 34)).alloc (.cells #[.iface 42 (.pointer (some ⟨u, 0, none⟩)), .int .i32 0] 34)).drewN nq) = W at hB r0 ⊢
  clear hW c0 HQ HB
  have hr := HR.out.below hB.out hu
  have zu := hr.lt
  have d0 := hr.cellv (j := 0) (v := .iface T (.pointer (some ⟨v, 0, none⟩))) rfl
  have d1 := hr.cellv (j := 1) (v := .int .i32 0) rfl
  have t0 := r0.cellv (j := 0) (v := .iface Tt (.pointer (some ⟨ut, 0, none⟩))) rfl
  have t1 := r0.cellv (j := 1) (v := .int .i32 0) rfl
  have zt := r0.lt
  have HR2 := Lib.hid hr
  clear hr r0
  go_wp2_with fail
  go_region_with ((go_at_call 9; (with_reducible refine (HI'.out _ hB.out.drew).mono ?_); rintro e w3 ⟨rfl, h3⟩; have e3 := HP'.out _ _ hB.out.drew h3; have hr3 : RowAt w3 u (dotRow T v nm 0) 54 := e3.trans HR2.out; have H3 := Lib.hid h3; clear h3 e3))
  all_goals
    have g4 := hr3.cellv (j := 4) (v := .int .u8 0) rfl
    have k4 := hr3.frozen 4
    have z3 := hr3.lt
    clear hr3
    go_wp2_with fail
    go_ret
    exact ⟨rfl, _, hB.out.drew, H3.out⟩

theorem try_idx1 (Tt ut T v u : Nat) (sb : Nat) (w : World) (h : RowAt w u (idxRow T v sb 0) 61) (HV : ∀ W, Below w.heap.size w W → Calls Try.prog 14 #[.iface Tt (.pointer (some ⟨ut, 0, none⟩)), .iface T (.pointer (some ⟨v, 0, none⟩))] W (Vls W true)) :
    Calls Try.prog 9 #[.agg #[.iface Tt (.pointer (some ⟨ut, 0, none⟩)), .int .i32 0], .agg #[.iface 43 (.pointer (some ⟨u, 0, none⟩)), .int .i32 0]] w fun e w' => e = .returned (.bool true) ∧ ∃ W, Below w.heap.size w W ∧ w' = W.setCell ⟨u, 5, none⟩ (.int .u8 1) := by
  have hst := fun (A : Addr) (W : World) (m : Mode) => run_store Try.prog W A (.iface Tt (.pointer (some ⟨ut, 0, none⟩))) m rfl
  have hu := h.lt
  have hb2 : Below w.heap.size w ((w.alloc (.cells #[.iface Tt (.pointer (some ⟨ut, 0, none⟩)), .int .i32 0] 34)).alloc (.cells #[.iface 43 (.pointer (some ⟨u, 0, none⟩)), .int .i32 0] 34)) := by go_grown
  have c0 := fun m => (RowAt.drewN (RowAt.below h hb2 hu) m).cellv (j := 0) (v := .iface T (.pointer (some ⟨v, 0, none⟩))) rfl
  have HQ := Lib.hid (fun m => quietly (w := ((w.alloc (.cells #[.iface Tt (.pointer (some ⟨ut, 0, none⟩)), .int .i32 0] 34)).alloc (.cells #[.iface 43 (.pointer (some ⟨u, 0, none⟩)), .int .i32 0] 34))) (n := m) (v := .bool true) (HV _ (below_drewN hb2 m)))
  have HR := Lib.hid h
  have HB := Lib.hid hb2
  clear h hb2 HV
  go_enter Try.func9, Try.ntmps9
  go_wp2_with fail
  go_quiet ((go_at_call 14; exact HQ.out _))
  have hB : Hid (Below w.heap.size w (((w.alloc (.cells #[.iface Tt (.pointer (some ⟨ut, 0, none⟩)), .int .i32 0] 34)).alloc (.cells #[.iface 43 (.pointer (some ⟨u, 0, none⟩)), .int .i32 0] 34)).drewN nq)) := below_drewN HB.out nq
  have r0 : RowAt (((w.alloc (.cells #[.iface Tt (.pointer (some ⟨ut, 0, none⟩)), .int .i32 0] 34)).alloc (.cells #[.iface 43 (.pointer (some ⟨u, 0, none⟩)), .int .i32 0] 34)).drewN nq) w.heap.size #[.iface Tt (.pointer (some ⟨ut, 0, none⟩)), .int .i32 0] 34 := (RowAt.new w _ _).alloc _
  generalize hW : (((w.alloc (.cells #[.iface Tt (.pointer (some ⟨ut, 0, none⟩)), .int .i32 0] 34)).alloc (.cells #[.iface 43 (.pointer (some ⟨u, 0, none⟩)), .int .i32 0] 34)).drewN nq) = W at hB r0 ⊢
  clear hW c0 HQ HB
  have hr := HR.out.below hB.out hu
  have zu := hr.lt
  have d4 := hr.cellv (j := 5) (v := .int .u8 0) rfl
  have f4 := hr.frozen 5
  clear hr r0
  go_wp2_with fail
  go_ret
  exact ⟨rfl, W, hB.out, rfl⟩

theorem try_idx2 (Tt ut T v u : Nat) (sb : Nat) (w : World) (h : RowAt w u (idxRow T v sb 0) 61) (HV : ∀ W, Below w.heap.size w W → Calls Try.prog 14 #[.iface Tt (.pointer (some ⟨ut, 0, none⟩)), .iface T (.pointer (some ⟨v, 0, none⟩))] W (Vls W false)) (PI : World → World → Prop) (HI : ∀ W, Below w.heap.size w W → Calls Try.prog 9 #[.agg #[.iface Tt (.pointer (some ⟨ut, 0, none⟩)), .int .i32 0], .agg #[.iface T (.pointer (some ⟨v, 0, none⟩)), .int .i32 0]] W fun e w' => e = .returned (.bool true) ∧ PI W w') (HP : ∀ W w', Below w.heap.size w W → PI W w' → w'.heap[u]? = W.heap[u]?) :
    Calls Try.prog 9 #[.agg #[.iface Tt (.pointer (some ⟨ut, 0, none⟩)), .int .i32 0], .agg #[.iface 43 (.pointer (some ⟨u, 0, none⟩)), .int .i32 0]] w fun e w' => e = .returned (.bool true) ∧ ∃ W W2, Below w.heap.size w W ∧ PI W W2 ∧ w' = W2.setCell ⟨u, 5, none⟩ (.int .u8 2) := by
  have hst := fun (A : Addr) (W : World) (m : Mode) => run_store Try.prog W A (.iface Tt (.pointer (some ⟨ut, 0, none⟩))) m rfl
  have hu := h.lt
  have hb2 : Below w.heap.size w ((w.alloc (.cells #[.iface Tt (.pointer (some ⟨ut, 0, none⟩)), .int .i32 0] 34)).alloc (.cells #[.iface 43 (.pointer (some ⟨u, 0, none⟩)), .int .i32 0] 34)) := by go_grown
  have c0 := fun m => (RowAt.drewN (RowAt.below h hb2 hu) m).cellv (j := 0) (v := .iface T (.pointer (some ⟨v, 0, none⟩))) rfl
  have HQ := Lib.hid (fun m => quietly (w := ((w.alloc (.cells #[.iface Tt (.pointer (some ⟨ut, 0, none⟩)), .int .i32 0] 34)).alloc (.cells #[.iface 43 (.pointer (some ⟨u, 0, none⟩)), .int .i32 0] 34))) (n := m) (v := .bool false) (HV _ (below_drewN hb2 m)))
  have HR := Lib.hid h
  have HB := Lib.hid hb2
  have HI' := Lib.hid HI
  have HP' := Lib.hid HP
  clear h hb2 HV HI HP
  go_enter Try.func9, Try.ntmps9
  go_wp2_with fail
  go_quiet ((go_at_call 14; exact HQ.out _))
  have hB : Hid (Below w.heap.size w (((w.alloc (.cells #[.iface Tt (.pointer (some ⟨ut, 0, none⟩)), .int .i32 0] 34)).alloc (.cells #[.iface 43 (.pointer (some ⟨u, 0, none⟩)), .int .i32 0] 34)).drewN nq)) := below_drewN HB.out nq
  have r0 : RowAt (((w.alloc (.cells #[.iface Tt (.pointer (some ⟨ut, 0, none⟩)), .int .i32 0] 34)).alloc (.cells #[.iface 43 (.pointer (some ⟨u, 0, none⟩)), .int .i32 0] 34)).drewN nq) w.heap.size #[.iface Tt (.pointer (some ⟨ut, 0, none⟩)), .int .i32 0] 34 := (RowAt.new w _ _).alloc _
  generalize hW : (((w.alloc (.cells #[.iface Tt (.pointer (some ⟨ut, 0, none⟩)), .int .i32 0] 34)).alloc (.cells #[.iface 43 (.pointer (some ⟨u, 0, none⟩)), .int .i32 0] 34)).drewN nq) = W at hB r0 ⊢
  clear hW c0 HQ HB
  have hr := HR.out.below hB.out hu
  have zu := hr.lt
  have d0 := hr.cellv (j := 0) (v := .iface T (.pointer (some ⟨v, 0, none⟩))) rfl
  have d1 := hr.cellv (j := 1) (v := .int .i32 0) rfl
  have t0 := r0.cellv (j := 0) (v := .iface Tt (.pointer (some ⟨ut, 0, none⟩))) rfl
  have t1 := r0.cellv (j := 1) (v := .int .i32 0) rfl
  have zt := r0.lt
  have HR2 := Lib.hid hr
  clear hr r0
  go_wp2_with fail
  go_region_with ((go_at_call 9; (with_reducible refine (HI'.out _ hB.out.drew).mono ?_); rintro e w3 ⟨rfl, h3⟩; have e3 := HP'.out _ _ hB.out.drew h3; have hr3 : RowAt w3 u (idxRow T v sb 0) 61 := e3.trans HR2.out; have H3 := Lib.hid h3; clear h3 e3))
  all_goals
    have g4 := hr3.cellv (j := 5) (v := .int .u8 0) rfl
    have k4 := hr3.frozen 5
    have z3 := hr3.lt
    clear hr3
    go_wp2_with fail
    go_ret
    exact ⟨rfl, _, _, hB.out.drew, H3.out, rfl⟩

theorem try_idx3 (Tt ut T v u : Nat) (sb : Nat) (w : World) (h : RowAt w u (idxRow T v sb 0) 61) (HV : ∀ W, Below w.heap.size w W → Calls Try.prog 14 #[.iface Tt (.pointer (some ⟨ut, 0, none⟩)), .iface T (.pointer (some ⟨v, 0, none⟩))] W (Vls W false)) (PI : World → World → Prop) (HI : ∀ W, Below w.heap.size w W → Calls Try.prog 9 #[.agg #[.iface Tt (.pointer (some ⟨ut, 0, none⟩)), .int .i32 0], .agg #[.iface T (.pointer (some ⟨v, 0, none⟩)), .int .i32 0]] W fun e w' => e = .returned (.bool false) ∧ PI W w') (HP : ∀ W w', Below w.heap.size w W → PI W w' → w'.heap[u]? = W.heap[u]?) :
    Calls Try.prog 9 #[.agg #[.iface Tt (.pointer (some ⟨ut, 0, none⟩)), .int .i32 0], .agg #[.iface 43 (.pointer (some ⟨u, 0, none⟩)), .int .i32 0]] w fun e w' => e = .returned (.bool false) ∧ ∃ W, Below w.heap.size w W ∧ PI W w' := by
  have hst := fun (A : Addr) (W : World) (m : Mode) => run_store Try.prog W A (.iface Tt (.pointer (some ⟨ut, 0, none⟩))) m rfl
  have hu := h.lt
  have hb2 : Below w.heap.size w ((w.alloc (.cells #[.iface Tt (.pointer (some ⟨ut, 0, none⟩)), .int .i32 0] 34)).alloc (.cells #[.iface 43 (.pointer (some ⟨u, 0, none⟩)), .int .i32 0] 34)) := by go_grown
  have c0 := fun m => (RowAt.drewN (RowAt.below h hb2 hu) m).cellv (j := 0) (v := .iface T (.pointer (some ⟨v, 0, none⟩))) rfl
  have HQ := Lib.hid (fun m => quietly (w := ((w.alloc (.cells #[.iface Tt (.pointer (some ⟨ut, 0, none⟩)), .int .i32 0] 34)).alloc (.cells #[.iface 43 (.pointer (some ⟨u, 0, none⟩)), .int .i32 0] 34))) (n := m) (v := .bool false) (HV _ (below_drewN hb2 m)))
  have HR := Lib.hid h
  have HB := Lib.hid hb2
  have HI' := Lib.hid HI
  have HP' := Lib.hid HP
  clear h hb2 HV HI HP
  go_enter Try.func9, Try.ntmps9
  go_wp2_with fail
  go_quiet ((go_at_call 14; exact HQ.out _))
  have hB : Hid (Below w.heap.size w (((w.alloc (.cells #[.iface Tt (.pointer (some ⟨ut, 0, none⟩)), .int .i32 0] 34)).alloc (.cells #[.iface 43 (.pointer (some ⟨u, 0, none⟩)), .int .i32 0] 34)).drewN nq)) := below_drewN HB.out nq
  have r0 : RowAt (((w.alloc (.cells #[.iface Tt (.pointer (some ⟨ut, 0, none⟩)), .int .i32 0] 34)).alloc (.cells #[.iface 43 (.pointer (some ⟨u, 0, none⟩)), .int .i32 0] 34)).drewN nq) w.heap.size #[.iface Tt (.pointer (some ⟨ut, 0, none⟩)), .int .i32 0] 34 := (RowAt.new w _ _).alloc _
  generalize hW : (((w.alloc (.cells #[.iface Tt (.pointer (some ⟨ut, 0, none⟩)), .int .i32 0] 34)).alloc (.cells #[.iface 43 (.pointer (some ⟨u, 0, none⟩)), .int .i32 0] 34)).drewN nq) = W at hB r0 ⊢
  clear hW c0 HQ HB
  have hr := HR.out.below hB.out hu
  have zu := hr.lt
  have d0 := hr.cellv (j := 0) (v := .iface T (.pointer (some ⟨v, 0, none⟩))) rfl
  have d1 := hr.cellv (j := 1) (v := .int .i32 0) rfl
  have t0 := r0.cellv (j := 0) (v := .iface Tt (.pointer (some ⟨ut, 0, none⟩))) rfl
  have t1 := r0.cellv (j := 1) (v := .int .i32 0) rfl
  have zt := r0.lt
  have HR2 := Lib.hid hr
  clear hr r0
  go_wp2_with fail
  go_region_with ((go_at_call 9; (with_reducible refine (HI'.out _ hB.out.drew).mono ?_); rintro e w3 ⟨rfl, h3⟩; have e3 := HP'.out _ _ hB.out.drew h3; have hr3 : RowAt w3 u (idxRow T v sb 0) 61 := e3.trans HR2.out; have H3 := Lib.hid h3; clear h3 e3))
  all_goals
    have g4 := hr3.cellv (j := 5) (v := .int .u8 0) rfl
    have k4 := hr3.frozen 5
    have z3 := hr3.lt
    clear hr3
    go_wp2_with fail
    go_ret
    exact ⟨rfl, _, hB.out.drew, H3.out⟩

theorem try_call1 (Tt ut T v u : Nat) (w : World) (h : RowAt w u (callRow T v 0) 65) (HV : ∀ W, Below w.heap.size w W → Calls Try.prog 14 #[.iface Tt (.pointer (some ⟨ut, 0, none⟩)), .iface T (.pointer (some ⟨v, 0, none⟩))] W (Vls W true)) :
    Calls Try.prog 9 #[.agg #[.iface Tt (.pointer (some ⟨ut, 0, none⟩)), .int .i32 0], .agg #[.iface 44 (.pointer (some ⟨u, 0, none⟩)), .int .i32 0]] w fun e w' => e = .returned (.bool true) ∧ ∃ W, Below w.heap.size w W ∧ w' = W.setCell ⟨u, 4, none⟩ (.int .u8 1) := by
  have hst := fun (A : Addr) (W : World) (m : Mode) => run_store Try.prog W A (.iface Tt (.pointer (some ⟨ut, 0, none⟩))) m rfl
  have hu := h.lt
  have hb2 : Below w.heap.size w ((w.alloc (.cells #[.iface Tt (.pointer (some ⟨ut, 0, none⟩)), .int .i32 0] 34)).alloc (.cells #[.iface 44 (.pointer (some ⟨u, 0, none⟩)), .int .i32 0] 34)) := by go_grown
  have c0 := fun m => (RowAt.drewN (RowAt.below h hb2 hu) m).cellv (j := 0) (v := .iface T (.pointer (some ⟨v, 0, none⟩))) rfl
  have HQ := Lib.hid (fun m => quietly (w := ((w.alloc (.cells #[.iface Tt (.pointer (some ⟨ut, 0, none⟩)), .int .i32 0] 34)).alloc (.cells #[.iface 44 (.pointer (some ⟨u, 0, none⟩)), .int .i32 0] 34))) (n := m) (v := .bool true) (HV _ (below_drewN hb2 m)))
  have HR := Lib.hid h
  have HB := Lib.hid hb2
  clear h hb2 HV
  go_enter Try.func9, Try.ntmps9
  go_wp2_with fail
  go_quiet ((go_at_call 14; exact HQ.out _))
  have hB : Hid (Below w.heap.size w (((w.alloc (.cells #[.iface Tt (.pointer (some ⟨ut, 0, none⟩)), .int .i32 0] 34)).alloc (.cells #[.iface 44 (.pointer (some ⟨u, 0, none⟩)), .int .i32 0] 34)).drewN nq)) := below_drewN HB.out nq
  have r0 : RowAt (((w.alloc (.cells #[.iface Tt (.pointer (some ⟨ut, 0, none⟩)), .int .i32 0] 34)).alloc (.cells #[.iface 44 (.pointer (some ⟨u, 0, none⟩)), .int .i32 0] 34)).drewN nq) w.heap.size #[.iface Tt (.pointer (some ⟨ut, 0, none⟩)), .int .i32 0] 34 := (RowAt.new w _ _).alloc _
  generalize hW : (((w.alloc (.cells #[.iface Tt (.pointer (some ⟨ut, 0, none⟩)), .int .i32 0] 34)).alloc (.cells #[.iface 44 (.pointer (some ⟨u, 0, none⟩)), .int .i32 0] 34)).drewN nq) = W at hB r0 ⊢
  clear hW c0 HQ HB
  have hr := HR.out.below hB.out hu
  have zu := hr.lt
  have d4 := hr.cellv (j := 4) (v := .int .u8 0) rfl
  have f4 := hr.frozen 4
  clear hr r0
  go_wp2_with fail
  go_ret
  exact ⟨rfl, W, hB.out, rfl⟩

theorem try_call2 (Tt ut T v u : Nat) (w : World) (h : RowAt w u (callRow T v 0) 65) (HV : ∀ W, Below w.heap.size w W → Calls Try.prog 14 #[.iface Tt (.pointer (some ⟨ut, 0, none⟩)), .iface T (.pointer (some ⟨v, 0, none⟩))] W (Vls W false)) (PI : World → World → Prop) (HI : ∀ W, Below w.heap.size w W → Calls Try.prog 9 #[.agg #[.iface Tt (.pointer (some ⟨ut, 0, none⟩)), .int .i32 0], .agg #[.iface T (.pointer (some ⟨v, 0, none⟩)), .int .i32 0]] W fun e w' => e = .returned (.bool true) ∧ PI W w') (HP : ∀ W w', Below w.heap.size w W → PI W w' → w'.heap[u]? = W.heap[u]?) :
    Calls Try.prog 9 #[.agg #[.iface Tt (.pointer (some ⟨ut, 0, none⟩)), .int .i32 0], .agg #[.iface 44 (.pointer (some ⟨u, 0, none⟩)), .int .i32 0]] w fun e w' => e = .returned (.bool true) ∧ ∃ W W2, Below w.heap.size w W ∧ PI W W2 ∧ w' = W2.setCell ⟨u, 4, none⟩ (.int .u8 2) := by
  have hst := fun (A : Addr) (W : World) (m : Mode) => run_store Try.prog W A (.iface Tt (.pointer (some ⟨ut, 0, none⟩))) m rfl
  have hu := h.lt
  have hb2 : Below w.heap.size w ((w.alloc (.cells #[.iface Tt (.pointer (some ⟨ut, 0, none⟩)), .int .i32 0] 34)).alloc (.cells #[.iface 44 (.pointer (some ⟨u, 0, none⟩)), .int .i32 0] 34)) := by go_grown
  have c0 := fun m => (RowAt.drewN (RowAt.below h hb2 hu) m).cellv (j := 0) (v := .iface T (.pointer (some ⟨v, 0, none⟩))) rfl
  have HQ := Lib.hid (fun m => quietly (w := ((w.alloc (.cells #[.iface Tt (.pointer (some ⟨ut, 0, none⟩)), .int .i32 0] 34)).alloc (.cells #[.iface 44 (.pointer (some ⟨u, 0, none⟩)), .int .i32 0] 34))) (n := m) (v := .bool false) (HV _ (below_drewN hb2 m)))
  have HR := Lib.hid h
  have HB := Lib.hid hb2
  have HI' := Lib.hid HI
  have HP' := Lib.hid HP
  clear h hb2 HV HI HP
  go_enter Try.func9, Try.ntmps9
  go_wp2_with fail
  go_quiet ((go_at_call 14; exact HQ.out _))
  have hB : Hid (Below w.heap.size w (((w.alloc (.cells #[.iface Tt (.pointer (some ⟨ut, 0, none⟩)), .int .i32 0] 34)).alloc (.cells #[.iface 44 (.pointer (some ⟨u, 0, none⟩)), .int .i32 0] 34)).drewN nq)) := below_drewN HB.out nq
  have r0 : RowAt (((w.alloc (.cells #[.iface Tt (.pointer (some ⟨ut, 0, none⟩)), .int .i32 0] 34)).alloc (.cells #[.iface 44 (.pointer (some ⟨u, 0, none⟩)), .int .i32 0] 34)).drewN nq) w.heap.size #[.iface Tt (.pointer (some ⟨ut, 0, none⟩)), .int .i32 0] 34 := (RowAt.new w _ _).alloc _
  generalize hW : (((w.alloc (.cells #[.iface Tt (.pointer (some ⟨ut, 0, none⟩)), .int .i32 0] 34)).alloc (.cells #[.iface 44 (.pointer (some ⟨u, 0, none⟩)), .int .i32 0] 34)).drewN nq) = W at hB r0 ⊢
  clear hW c0 HQ HB
  have hr := HR.out.below hB.out hu
  have zu := hr.lt
  have d0 := hr.cellv (j := 0) (v := .iface T (.pointer (some ⟨v, 0, none⟩))) rfl
  have d1 := hr.cellv (j := 1) (v := .int .i32 0) rfl
  have t0 := r0.cellv (j := 0) (v := .iface Tt (.pointer (some ⟨ut, 0, none⟩))) rfl
  have t1 := r0.cellv (j := 1) (v := .int .i32 0) rfl
  have zt := r0.lt
  have HR2 := Lib.hid hr
  clear hr r0
  go_wp2_with fail
  go_region_with ((go_at_call 9; (with_reducible refine (HI'.out _ hB.out.drew).mono ?_); rintro e w3 ⟨rfl, h3⟩; have e3 := HP'.out _ _ hB.out.drew h3; have hr3 : RowAt w3 u (callRow T v 0) 65 := e3.trans HR2.out; have H3 := Lib.hid h3; clear h3 e3))
  all_goals
    have g4 := hr3.cellv (j := 4) (v := .int .u8 0) rfl
    have k4 := hr3.frozen 4
    have z3 := hr3.lt
    clear hr3
    go_wp2_with fail
    go_ret
    exact ⟨rfl, _, _, hB.out.drew, H3.out, rfl⟩

theorem try_call3 (Tt ut T v u : Nat) (w : World) (h : RowAt w u (callRow T v 0) 65) (HV : ∀ W, Below w.heap.size w W → Calls Try.prog 14 #[.iface Tt (.pointer (some ⟨ut, 0, none⟩)), .iface T (.pointer (some ⟨v, 0, none⟩))] W (Vls W false)) (PI : World → World → Prop) (HI : ∀ W, Below w.heap.size w W → Calls Try.prog 9 #[.agg #[.iface Tt (.pointer (some ⟨ut, 0, none⟩)), .int .i32 0], .agg #[.iface T (.pointer (some ⟨v, 0, none⟩)), .int .i32 0]] W fun e w' => e = .returned (.bool false) ∧ PI W w') (HP : ∀ W w', Below w.heap.size w W → PI W w' → w'.heap[u]? = W.heap[u]?) :
    Calls Try.prog 9 #[.agg #[.iface Tt (.pointer (some ⟨ut, 0, none⟩)), .int .i32 0], .agg #[.iface 44 (.pointer (some ⟨u, 0, none⟩)), .int .i32 0]] w fun e w' => e = .returned (.bool false) ∧ ∃ W, Below w.heap.size w W ∧ PI W w' := by
  have hst := fun (A : Addr) (W : World) (m : Mode) => run_store Try.prog W A (.iface Tt (.pointer (some ⟨ut, 0, none⟩))) m rfl
  have hu := h.lt
  have hb2 : Below w.heap.size w ((w.alloc (.cells #[.iface Tt (.pointer (some ⟨ut, 0, none⟩)), .int .i32 0] 34)).alloc (.cells #[.iface 44 (.pointer (some ⟨u, 0, none⟩)), .int .i32 0] 34)) := by go_grown
  have c0 := fun m => (RowAt.drewN (RowAt.below h hb2 hu) m).cellv (j := 0) (v := .iface T (.pointer (some ⟨v, 0, none⟩))) rfl
  have HQ := Lib.hid (fun m => quietly (w := ((w.alloc (.cells #[.iface Tt (.pointer (some ⟨ut, 0, none⟩)), .int .i32 0] 34)).alloc (.cells #[.iface 44 (.pointer (some ⟨u, 0, none⟩)), .int .i32 0] 34))) (n := m) (v := .bool false) (HV _ (below_drewN hb2 m)))
  have HR := Lib.hid h
  have HB := Lib.hid hb2
  have HI' := Lib.hid HI
  have HP' := Lib.hid HP
  clear h hb2 HV HI HP
  go_enter Try.func9, Try.ntmps9
  go_wp2_with fail
  go_quiet ((go_at_call 14; exact HQ.out _))
  have hB : Hid (Below w.heap.size w (((w.alloc (.cells #[.iface Tt (.pointer (some ⟨ut, 0, none⟩)), .int .i32 0] 34)).alloc (.cells #[.iface 44 (.pointer (some ⟨u, 0, none⟩)), .int .i32 0] 34)).drewN nq)) := below_drewN HB.out nq
  have r0 : RowAt (((w.alloc (.cells #[.iface Tt (.pointer (some ⟨ut, 0, none⟩)), .int .i32 0] 34)).alloc (.cells #[.iface 44 (.pointer (some ⟨u, 0, none⟩)), .int .i32 0] 34)).drewN nq) w.heap.size #[.iface Tt (.pointer (some ⟨ut, 0, none⟩)), .int .i32 0] 34 := (RowAt.new w _ _).alloc _
  generalize hW : (((w.alloc (.cells #[.iface Tt (.pointer (some ⟨ut, 0, none⟩)), .int .i32 0] 34)).alloc (.cells #[.iface 44 (.pointer (some ⟨u, 0, none⟩)), .int .i32 0] 34)).drewN nq) = W at hB r0 ⊢
  clear hW c0 HQ HB
  have hr := HR.out.below hB.out hu
  have zu := hr.lt
  have d0 := hr.cellv (j := 0) (v := .iface T (.pointer (some ⟨v, 0, none⟩))) rfl
  have d1 := hr.cellv (j := 1) (v := .int .i32 0) rfl
  have t0 := r0.cellv (j := 0) (v := .iface Tt (.pointer (some ⟨ut, 0, none⟩))) rfl
  have t1 := r0.cellv (j := 1) (v := .int .i32 0) rfl
  have zt := r0.lt
  have HR2 := Lib.hid hr
  clear hr r0
  go_wp2_with fail
  go_region_with ((go_at_call 9; (with_reducible refine (HI'.out _ hB.out.drew).mono ?_); rintro e w3 ⟨rfl, h3⟩; have e3 := HP'.out _ _ hB.out.drew h3; have hr3 : RowAt w3 u (callRow T v 0) 65 := e3.trans HR2.out; have H3 := Lib.hid h3; clear h3 e3))
  all_goals
    have g4 := hr3.cellv (j := 4) (v := .int .u8 0) rfl
    have k4 := hr3.frozen 4
    have z3 := hr3.lt
    clear hr3
    go_wp2_with fail
    go_ret
    exact ⟨rfl, _, hB.out.drew, H3.out⟩



end Go.Proofs.Ytjngpnijogfmdac.fnTryToInsertOptionalChainMarksExactlyTheTail
