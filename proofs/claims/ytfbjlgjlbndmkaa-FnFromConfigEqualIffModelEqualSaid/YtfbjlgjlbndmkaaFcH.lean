import Derived.Test.YtfbjlgjlbndmkaaKit
import Derived.Test.YtfbjlgjlbndmkaaFcG
namespace Go.Proofs.Ytfbjlgjlbndmkaa
open Go.ChangeShapes Go.WideShapes Go.ChangeAt Go.RowKit
set_option linter.unusedVariables false
set_option maxRecDepth 100000
set_option maxHeartbeats 2000000

set_option maxHeartbeats 8000000 in
theorem build7_11 (e : ByteArray) (f o m B : Int) (a : Option Addr) (n c : Nat) (Sx : Nat → ByteArray) (w : World) (h0 : 0 ≤ B) (h1 : B < 65536) (hn : n ≤ 1048576) (hx : IsStrs w a n c Sx) :
    Calls Try.prog 7 #[.agg (CV e f o m B true true a n c)] w (Built w e f o m B true true n Sx) := by
  go_enter Try.func7, Try.ntmps7
  go_wp2_with fail
  have S0 : S7 w w.heap.size (w.heap.size + 1) e f o m B true true a n c ((w.alloc (.cells (CV e f o m B true true a n c) 26)).alloc (.cells PZ66 66)) :=
    ⟨(RowAt.new w (CV e f o m B true true a n c) 26).alloc _, by simpa using RowAt.new (w.alloc (.cells (CV e f o m B true true a n c) 26)) PZ66 66, ((Below.refl _ _).alloc (Nat.le_refl _) _).alloc (by simp) _⟩
  have hB := Lib.hid (And.intro h0 h1)
  refine region7 (fun c a d v w h => by cases d <;> exact h) w _ w.heap.size (w.heap.size + 1) e f o m B true true a n c Sx h0 h1 hn hx (by omega) (by omega) S0 ?_
  intro p a' W hp hpb hpr hS hrow hl hlp hlr
  have H : St7 w w.heap.size (w.heap.size + 1) p a' Sx e f o m B true true a n c none none W :=
    ⟨hS.1, hS.2.1, hrow, hl, rx_none _, rx_none _, hS.2.2, hp, by omega, Ne.symm hpb, Ne.symm hpr, hlp, hlr, by simp, by simp, by simp, by simp⟩
  obtain ⟨b, hb⟩ : ∃ b, b = w.heap.size := ⟨_, rfl⟩
  obtain ⟨r, hr⟩ : ∃ r, r = w.heap.size + 1 := ⟨_, rfl⟩
  rw [← hr, ← hb] at H ⊢
  clear hS hrow hl hlp hlr hp hpb hpr S0 hb hr hx h0 h1 hB
  have k5 := H.rowb.cellv (j := 5) (v := .bool true) (by rfl)
  have k6 := H.rowb.cellv (j := 6) (v := .bool true) (by rfl)
  have HH := Lib.hid H
  clear H
  unfold F7
  go_wp2_with fail
  refine (opt13 p e f o m B a' n none none _ HH.out.rowp).mono ?_
  rintro e9 w9 ⟨rfl, hb9⟩
  have J9 := Lib.hid (HH.out.later hb9)
  clear hb9
  go_wp2_with (refine wpList_store_row rfl 66 _ _ rfl r (A66 e f o m B (.slice a' n n) (rxV none) (rxV none)) (by rfl) (by rfl) 66 PZ66 J9.out.rowr (by kernel_rfl) (by kernel_rfl) (a66_one e f o m B a' n _ _) ?_)
  have hr9 := row_setRow (ds := A66 e f o m B (.slice a' n n) (rxV none) (rxV none)) J9.out.rowr
  have hl9 := all66 _ e f o m B a' n _ _ hr9
  obtain ⟨x1, x2, x3, x4⟩ := J9.out.fin (A66 e f o m B (.slice a' n n) (rxV none) (rxV none))
  exact bodyPost_ret (v := .agg (A66 e f o m B (.slice a' n n) (rxV none) (rxV none))) (results_cell Try.results7 (by rfl) hl9) rfl ⟨a', none, none, rfl, x1, x2, x3, rfl, rfl, x4⟩

set_option maxHeartbeats 8000000 in
theorem build7_10 (e : ByteArray) (f o m B : Int) (a : Option Addr) (n c : Nat) (Sx : Nat → ByteArray) (w : World) (h0 : 0 ≤ B) (h1 : B < 65536) (hn : n ≤ 1048576) (hx : IsStrs w a n c Sx) :
    Calls Try.prog 7 #[.agg (CV e f o m B true false a n c)] w (Built w e f o m B true false n Sx) := by
  go_enter Try.func7, Try.ntmps7
  go_wp2_with fail
  have S0 : S7 w w.heap.size (w.heap.size + 1) e f o m B true false a n c ((w.alloc (.cells (CV e f o m B true false a n c) 26)).alloc (.cells PZ66 66)) :=
    ⟨(RowAt.new w (CV e f o m B true false a n c) 26).alloc _, by simpa using RowAt.new (w.alloc (.cells (CV e f o m B true false a n c) 26)) PZ66 66, ((Below.refl _ _).alloc (Nat.le_refl _) _).alloc (by simp) _⟩
  have hB := Lib.hid (And.intro h0 h1)
  refine region7 (fun c a d v w h => by cases d <;> exact h) w _ w.heap.size (w.heap.size + 1) e f o m B true false a n c Sx h0 h1 hn hx (by omega) (by omega) S0 ?_
  intro p a' W hp hpb hpr hS hrow hl hlp hlr
  have H : St7 w w.heap.size (w.heap.size + 1) p a' Sx e f o m B true false a n c none none W :=
    ⟨hS.1, hS.2.1, hrow, hl, rx_none _, rx_none _, hS.2.2, hp, by omega, Ne.symm hpb, Ne.symm hpr, hlp, hlr, by simp, by simp, by simp, by simp⟩
  obtain ⟨b, hb⟩ : ∃ b, b = w.heap.size := ⟨_, rfl⟩
  obtain ⟨r, hr⟩ : ∃ r, r = w.heap.size + 1 := ⟨_, rfl⟩
  rw [← hr, ← hb] at H ⊢
  clear hS hrow hl hlp hlr hp hpb hpr S0 hb hr hx h0 h1 hB
  have k5 := H.rowb.cellv (j := 5) (v := .bool true) (by rfl)
  have k6 := H.rowb.cellv (j := 6) (v := .bool false) (by rfl)
  have HH := Lib.hid H
  clear H
  unfold F7
  go_wp2_with fail
  refine (rx12 _).mono ?_
  rintro e1 w1 ⟨rfl, hx1, hb1, hz1⟩
  obtain ⟨q1, hq1⟩ : ∃ q, q = W.heap.size := ⟨_, rfl⟩
  rw [← hq1] at hx1 hz1 ⊢
  have J1 := HH.out.later hb1
  have HJ1 := Lib.hid (J1.setr q1 hx1 (by have := HH.out.rowp.lt; omega) (by have := HH.out.rowr.lt; omega))
  have u1 := J1.rowp.cellv (j := 7) (v := .pointer none) (by rfl)
  have v1 := J1.rowp.frozen 7
  have m1 := J1.rowb.cellv (j := 6) (v := .bool false) (by rfl)
  have n1 : p ≠ b := fun e => HH.out.hpb e.symm
  clear J1 hb1 hq1 hx1 hz1 k5 k6
  go_wp2_with fail
  refine (opt13 p e f o m B a' n none (some ⟨q1, 0, none⟩) _ HJ1.out.rowp).mono ?_
  rintro e9 w9 ⟨rfl, hb9⟩
  have J9 := Lib.hid (HJ1.out.later hb9)
  clear hb9
  go_wp2_with (refine wpList_store_row rfl 66 _ _ rfl r (A66 e f o m B (.slice a' n n) (rxV none) (rxV (some q1))) (by rfl) (by rfl) 66 PZ66 J9.out.rowr (by kernel_rfl) (by kernel_rfl) (a66_one e f o m B a' n _ _) ?_)
  have hr9 := row_setRow (ds := A66 e f o m B (.slice a' n n) (rxV none) (rxV (some q1))) J9.out.rowr
  have hl9 := all66 _ e f o m B a' n _ _ hr9
  obtain ⟨x1, x2, x3, x4⟩ := J9.out.fin (A66 e f o m B (.slice a' n n) (rxV none) (rxV (some q1)))
  exact bodyPost_ret (v := .agg (A66 e f o m B (.slice a' n n) (rxV none) (rxV (some q1)))) (results_cell Try.results7 (by rfl) hl9) rfl ⟨a', none, (some q1), rfl, x1, x2, x3, rfl, rfl, x4⟩

set_option maxHeartbeats 8000000 in
theorem build7_01 (e : ByteArray) (f o m B : Int) (a : Option Addr) (n c : Nat) (Sx : Nat → ByteArray) (w : World) (h0 : 0 ≤ B) (h1 : B < 65536) (hn : n ≤ 1048576) (hx : IsStrs w a n c Sx) :
    Calls Try.prog 7 #[.agg (CV e f o m B false true a n c)] w (Built w e f o m B false true n Sx) := by
  go_enter Try.func7, Try.ntmps7
  go_wp2_with fail
  have S0 : S7 w w.heap.size (w.heap.size + 1) e f o m B false true a n c ((w.alloc (.cells (CV e f o m B false true a n c) 26)).alloc (.cells PZ66 66)) :=
    ⟨(RowAt.new w (CV e f o m B false true a n c) 26).alloc _, by simpa using RowAt.new (w.alloc (.cells (CV e f o m B false true a n c) 26)) PZ66 66, ((Below.refl _ _).alloc (Nat.le_refl _) _).alloc (by simp) _⟩
  have hB := Lib.hid (And.intro h0 h1)
  refine region7 (fun c a d v w h => by cases d <;> exact h) w _ w.heap.size (w.heap.size + 1) e f o m B false true a n c Sx h0 h1 hn hx (by omega) (by omega) S0 ?_
  intro p a' W hp hpb hpr hS hrow hl hlp hlr
  have H : St7 w w.heap.size (w.heap.size + 1) p a' Sx e f o m B false true a n c none none W :=
    ⟨hS.1, hS.2.1, hrow, hl, rx_none _, rx_none _, hS.2.2, hp, by omega, Ne.symm hpb, Ne.symm hpr, hlp, hlr, by simp, by simp, by simp, by simp⟩
  obtain ⟨b, hb⟩ : ∃ b, b = w.heap.size := ⟨_, rfl⟩
  obtain ⟨r, hr⟩ : ∃ r, r = w.heap.size + 1 := ⟨_, rfl⟩
  rw [← hr, ← hb] at H ⊢
  clear hS hrow hl hlp hlr hp hpb hpr S0 hb hr hx h0 h1 hB
  have k5 := H.rowb.cellv (j := 5) (v := .bool false) (by rfl)
  have k6 := H.rowb.cellv (j := 6) (v := .bool true) (by rfl)
  have HH := Lib.hid H
  clear H
  unfold F7
  go_wp2_with fail
  refine (rx12 _).mono ?_
  rintro e1 w1 ⟨rfl, hx1, hb1, hz1⟩
  obtain ⟨q1, hq1⟩ : ∃ q, q = W.heap.size := ⟨_, rfl⟩
  rw [← hq1] at hx1 hz1 ⊢
  have J1 := HH.out.later hb1
  have HJ1 := Lib.hid (J1.setm q1 hx1 (by have := HH.out.rowp.lt; omega) (by have := HH.out.rowr.lt; omega))
  have u1 := J1.rowp.cellv (j := 6) (v := .pointer none) (by rfl)
  have v1 := J1.rowp.frozen 6
  have m1 := J1.rowb.cellv (j := 6) (v := .bool true) (by rfl)
  have n1 : p ≠ b := fun e => HH.out.hpb e.symm
  clear J1 hb1 hq1 hx1 hz1 k5 k6
  go_wp2_with fail
  refine (opt13 p e f o m B a' n (some ⟨q1, 0, none⟩) none _ HJ1.out.rowp).mono ?_
  rintro e9 w9 ⟨rfl, hb9⟩
  have J9 := Lib.hid (HJ1.out.later hb9)
  clear hb9
  go_wp2_with (refine wpList_store_row rfl 66 _ _ rfl r (A66 e f o m B (.slice a' n n) (rxV (some q1)) (rxV none)) (by rfl) (by rfl) 66 PZ66 J9.out.rowr (by kernel_rfl) (by kernel_rfl) (a66_one e f o m B a' n _ _) ?_)
  have hr9 := row_setRow (ds := A66 e f o m B (.slice a' n n) (rxV (some q1)) (rxV none)) J9.out.rowr
  have hl9 := all66 _ e f o m B a' n _ _ hr9
  obtain ⟨x1, x2, x3, x4⟩ := J9.out.fin (A66 e f o m B (.slice a' n n) (rxV (some q1)) (rxV none))
  exact bodyPost_ret (v := .agg (A66 e f o m B (.slice a' n n) (rxV (some q1)) (rxV none))) (results_cell Try.results7 (by rfl) hl9) rfl ⟨a', (some q1), none, rfl, x1, x2, x3, rfl, rfl, x4⟩

set_option maxHeartbeats 8000000 in
theorem build7_00 (e : ByteArray) (f o m B : Int) (a : Option Addr) (n c : Nat) (Sx : Nat → ByteArray) (w : World) (h0 : 0 ≤ B) (h1 : B < 65536) (hn : n ≤ 1048576) (hx : IsStrs w a n c Sx) :
    Calls Try.prog 7 #[.agg (CV e f o m B false false a n c)] w (Built w e f o m B false false n Sx) := by
  go_enter Try.func7, Try.ntmps7
  go_wp2_with fail
  have S0 : S7 w w.heap.size (w.heap.size + 1) e f o m B false false a n c ((w.alloc (.cells (CV e f o m B false false a n c) 26)).alloc (.cells PZ66 66)) :=
    ⟨(RowAt.new w (CV e f o m B false false a n c) 26).alloc _, by simpa using RowAt.new (w.alloc (.cells (CV e f o m B false false a n c) 26)) PZ66 66, ((Below.refl _ _).alloc (Nat.le_refl _) _).alloc (by simp) _⟩
  have hB := Lib.hid (And.intro h0 h1)
  refine region7 (fun c a d v w h => by cases d <;> exact h) w _ w.heap.size (w.heap.size + 1) e f o m B false false a n c Sx h0 h1 hn hx (by omega) (by omega) S0 ?_
  intro p a' W hp hpb hpr hS hrow hl hlp hlr
  have H : St7 w w.heap.size (w.heap.size + 1) p a' Sx e f o m B false false a n c none none W :=
    ⟨hS.1, hS.2.1, hrow, hl, rx_none _, rx_none _, hS.2.2, hp, by omega, Ne.symm hpb, Ne.symm hpr, hlp, hlr, by simp, by simp, by simp, by simp⟩
  obtain ⟨b, hb⟩ : ∃ b, b = w.heap.size := ⟨_, rfl⟩
  obtain ⟨r, hr⟩ : ∃ r, r = w.heap.size + 1 := ⟨_, rfl⟩
  rw [← hr, ← hb] at H ⊢
  clear hS hrow hl hlp hlr hp hpb hpr S0 hb hr hx h0 h1 hB
  have k5 := H.rowb.cellv (j := 5) (v := .bool false) (by rfl)
  have k6 := H.rowb.cellv (j := 6) (v := .bool false) (by rfl)
  have HH := Lib.hid H
  clear H
  unfold F7
  go_wp2_with fail
  refine (rx12 _).mono ?_
  rintro e1 w1 ⟨rfl, hx1, hb1, hz1⟩
  obtain ⟨q1, hq1⟩ : ∃ q, q = W.heap.size := ⟨_, rfl⟩
  rw [← hq1] at hx1 hz1 ⊢
  have J1 := HH.out.later hb1
  have HJ1 := Lib.hid (J1.setm q1 hx1 (by have := HH.out.rowp.lt; omega) (by have := HH.out.rowr.lt; omega))
  have u1 := J1.rowp.cellv (j := 6) (v := .pointer none) (by rfl)
  have v1 := J1.rowp.frozen 6
  have m1 := J1.rowb.cellv (j := 6) (v := .bool false) (by rfl)
  have n1 : p ≠ b := fun e => HH.out.hpb e.symm
  clear J1 hb1 hq1 hx1 hz1 k5 k6
  go_wp2_with fail
  refine (rx12 _).mono ?_
  rintro e2 w2 ⟨rfl, hx2, hb2, hz2⟩
  obtain ⟨q2, hq2⟩ : ∃ q, q = (w1.setCell ⟨p, 6, none⟩ (.pointer (some ⟨q1, 0, none⟩))).heap.size := ⟨_, rfl⟩
  rw [← hq2] at hx2 hz2 ⊢
  have J2 := HJ1.out.later hb2
  have HJ2 := Lib.hid (J2.setr q2 hx2 (by have := HJ1.out.rowp.lt; omega) (by have := HJ1.out.rowr.lt; omega))
  have u2 := J2.rowp.cellv (j := 7) (v := .pointer none) (by rfl)
  have v2 := J2.rowp.frozen 7
  have m2 := J2.rowb.cellv (j := 6) (v := .bool false) (by rfl)
  have n2 : p ≠ b := fun e => HJ1.out.hpb e.symm
  clear J2 hb2 hq2 hx2 hz2 u1 v1 m1
  go_wp2_with fail
  refine (opt13 p e f o m B a' n (some ⟨q1, 0, none⟩) (some ⟨q2, 0, none⟩) _ HJ2.out.rowp).mono ?_
  rintro e9 w9 ⟨rfl, hb9⟩
  have J9 := Lib.hid (HJ2.out.later hb9)
  clear hb9
  go_wp2_with (refine wpList_store_row rfl 66 _ _ rfl r (A66 e f o m B (.slice a' n n) (rxV (some q1)) (rxV (some q2))) (by rfl) (by rfl) 66 PZ66 J9.out.rowr (by kernel_rfl) (by kernel_rfl) (a66_one e f o m B a' n _ _) ?_)
  have hr9 := row_setRow (ds := A66 e f o m B (.slice a' n n) (rxV (some q1)) (rxV (some q2))) J9.out.rowr
  have hl9 := all66 _ e f o m B a' n _ _ hr9
  obtain ⟨x1, x2, x3, x4⟩ := J9.out.fin (A66 e f o m B (.slice a' n n) (rxV (some q1)) (rxV (some q2)))
  exact bodyPost_ret (v := .agg (A66 e f o m B (.slice a' n n) (rxV (some q1)) (rxV (some q2)))) (results_cell Try.results7 (by rfl) hl9) rfl ⟨a', (some q1), (some q2), rfl, x1, x2, x3, rfl, rfl, x4⟩


end Go.Proofs.Ytfbjlgjlbndmkaa
