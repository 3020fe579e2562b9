import Derived.Test.YtfmfniddnlpkmaaDoorKit
import Derived.Test.YtfmfniddnlpkmaaDoorViF
namespace Go.Proofs.YtfmfniddnlpkmaaDoor
open Go.ChangeShapes Go.WideShapes Go.ChangeAt Go.RowKit
set_option linter.unusedVariables false
set_option maxRecDepth 100000
set_option maxHeartbeats 2000000

set_option maxHeartbeats 8000000 in
theorem val27B (B p : Nat) (src un mode fmt loc : Int) (n : Nat) (ts : Bool) (j : Nat) (w : World) (hn : n ≤ 4096) (hj : j ≤ 4096) (hI : IR w) (hB0 : 0 < B) (h : StU w B p src un mode fmt n ts j) (hr : rew un mode fmt = true) :
    Calls Tryd.prog 27 #[.pointer (some ⟨p, 0, none⟩), .agg #[.int .i32 loc]] w (Val27 B p src un mode fmt loc n ts (j + 1) w) := by
  obtain ⟨G, gc, h⟩ := h
  have hB := h.base
  obtain ⟨cs', M', ms', S', c', ds', vt', rp, pc, rm, m5, rs, hd, hu, bp0, bm0, bs0⟩ := id h
  have c23 := rp.cellv pc.c23
  have c34 := rp.cellv pc.c34
  have c36 := rp.cellv pc.c36
  have c298 := rp.cellv pc.c298
  have c299 := rp.cellv pc.c299
  have zp := rp.lt
  have zp1 : p < w.heap.size + 1 := by omega
  have zp2 : p < w.heap.size + 1 + 1 := by omega
  obtain ⟨g0, g1⟩ := id hI
  have zI : 0 < w.heap.size := cell_lt hI.1
  have zI1 : 0 < w.heap.size + 1 := by omega
  have hne : ¬ (n : Int) = 4294967295 := by omega
  have hne2 : ((n : Int) == 4294967295) = false := by simpa using hne
  have HIR := Lib.hid hI
  have H33 := Lib.hid (fun W => has33 un W)
  have H34 := Lib.hid (fun W => keep34 fmt W)
  unfold rew at hr
  obtain ⟨q, hq⟩ : ∃ q, (bits BinOp.and IntKind.u64 un 17179869184 != 0) = q := ⟨_, rfl⟩
  obtain ⟨k, hk⟩ : ∃ k, (fmt == 0 || fmt == 3) = k := ⟨_, rfl⟩
  rw [hq] at H33
  rw [hk] at H34
  rw [hq, hk] at hr
  have HH := Lib.hid h
  clear hq hk rp pc rm m5 rs hd hu h hI
  cases q
  · have hm : mode ≠ 0 := fun e => by subst e; simp at hr
    have hm' : (mode == 0) = false := by simpa using hm
    have hm2 : (mode != 0) = true := by simpa using hm
    have hk : k = false := by
      cases k
      · rfl
      · simp at hr
    subst hk
    clear hr
    go_enter Tryd.func27, Tryd.ntmps27
    go_wp2_with (first | (go_at_call 33; refine (H33.out _).mono ?_; rintro e wx ⟨rfl, rfl⟩) | (go_at_call 34; refine (H34.out _).mono ?_; rintro e wx ⟨rfl, rfl⟩))
    go_quiet (fail)
    go_wp2_with fail
    have hbw : Below w.heap.size w (((w.alloc (.cells #[.int .i32 loc] 36)).alloc (.cells #[.nilIface, .int .i32 0] 38)).drewN nq) := ⟨rfl, rfl, rfl, by simp; omega, fun j hj => (Below.heap_alloc _ _ _ (by simp; omega)).trans (Below.heap_alloc _ _ _ hj)⟩
    have HS2 := Lib.hid (HH.out.below hbw)
    have V32 : Hid (RowAt (((w.alloc (.cells #[.int .i32 loc] 36)).alloc (.cells #[.nilIface, .int .i32 0] 38)).drewN nq) w.heap.size #[.int .i32 loc] 36) := (RowAt.new w _ _).alloc _
    have V42 : Hid (RowAt (((w.alloc (.cells #[.int .i32 loc] 36)).alloc (.cells #[.nilIface, .int .i32 0] 38)).drewN nq) (w.heap.size + 1) #[.nilIface, .int .i32 0] 38) := RowAt.newAt (by simp)
    have HB0 := Lib.hid hbw
    clear hbw HH HIR
    generalize hW0 : ((w.alloc (.cells #[.int .i32 loc] 36)).alloc (.cells #[.nilIface, .int .i32 0] 38)).drewN nq = W0 at HS2 V32 V42 HB0 ⊢
    clear hW0 c23 c34 c36 c298 c299 g0 g1
    refine (rec36 B p src un mode fmt src n n ts j (.slice (some ⟨G, 0, none⟩) 1 gc) W0 hn hj HS2.out).mono ?_
    rintro e w5 ⟨rfl, hG5, hb5, hk5⟩
    have HG5 := Lib.hid hG5
    have HB5 := Lib.hid hb5
    have V35 := hk5 _ _ _ V32.out (.inl rfl)
    have V45 := hk5 _ _ _ V42.out (.inr (.inl rfl))
    obtain ⟨cs5, M5, ms5, S5, c5, ds5, vt5, rp5, pc5, _⟩ := id hG5
    have k0 := V35.cellv (j := 0) (v := .int .i32 loc) rfl
    have r0 := V45.cellv (j := 0) (v := .nilIface) rfl
    have r1 := V45.cellv (j := 1) (v := .int .i32 0) rfl
    have fr := V45.frozen
    have s298 := rp5.cellv pc5.c298
    have s299 := rp5.cellv pc5.c299
    have y3 := V35.lt
    have y4 := V45.lt
    have yp := rp5.lt
    have HV4 := Lib.hid V45
    clear hG5 hb5 hk5 V35 V45 rp5 pc5 V32 V42
    go_wp2_with fail
    go_region
    go_wp2_with fail
    have q : RowAt (World.alloc ((w5.setCell ⟨w.heap.size + 1, 0, none⟩ (.iface 203 (.pointer (some ⟨w5.heap.size, 0, none⟩)))).setCell ⟨w.heap.size + 1, 1, none⟩ (.int .i32 loc)) (.cells #[.int .u32 src, .int .u32 n, .bool false, .bool false, .bool false] 205)).drew (w.heap.size + 1) _ 38 := ((HV4.out.set 0 (.iface 203 (.pointer (some ⟨w5.heap.size, 0, none⟩)))).set 1 (.int .i32 loc)).alloc _
    have q0 := q.cellv (j := 0) (v := (.iface 203 (.pointer (some ⟨w5.heap.size, 0, none⟩)))) rfl
    have q1 := q.cellv (j := 1) (v := .int .i32 loc) rfl
    refine bodyPost_ret (v := .tuple #[.agg #[(.iface 203 (.pointer (some ⟨w5.heap.size, 0, none⟩))), .int .i32 loc], .bool true]) (by simp [results, Tryd.results27, go_sem, q0, q1]) rfl ?_
    exact ⟨w5.heap.size, _, rfl, (show RowAt (World.alloc ((w5.setCell ⟨w.heap.size + 1, 0, none⟩ (.iface 203 (.pointer (some ⟨w5.heap.size, 0, none⟩)))).setCell ⟨w.heap.size + 1, 1, none⟩ (.int .i32 loc)) (.cells #[.int .u32 src, .int .u32 n, .bool false, .bool false, .bool false] 205)) w5.heap.size #[.int .u32 src, .int .u32 n, .bool false, .bool false, .bool false] 205 from RowAt.newAt (by simp)), rfl, rfl, ⟨_, _, StG.below ((HG5.out.kept38 HV4.out).kept38 (HV4.out.set 0 _)) ((Below.refl _ _).alloc (Nat.le_refl _) _).drew⟩,
      (((((HB0.out.mono hB).trans HB5.out).setCell (Nat.le_succ_of_le hB) _).setCell (Nat.le_succ_of_le hB) _).alloc (by simp; omega) _).drew⟩
  · clear hr
    go_enter Tryd.func27, Tryd.ntmps27
    go_wp2_with (first | (go_at_call 33; refine (H33.out _).mono ?_; rintro e wx ⟨rfl, rfl⟩) | (go_at_call 34; refine (H34.out _).mono ?_; rintro e wx ⟨rfl, rfl⟩))
    go_quiet (fail)
    go_wp2_with fail
    have hbw : Below w.heap.size w (((w.alloc (.cells #[.int .i32 loc] 36)).alloc (.cells #[.nilIface, .int .i32 0] 38)).drewN nq) := ⟨rfl, rfl, rfl, by simp; omega, fun j hj => (Below.heap_alloc _ _ _ (by simp; omega)).trans (Below.heap_alloc _ _ _ hj)⟩
    have HS2 := Lib.hid (HH.out.below hbw)
    have V32 : Hid (RowAt (((w.alloc (.cells #[.int .i32 loc] 36)).alloc (.cells #[.nilIface, .int .i32 0] 38)).drewN nq) w.heap.size #[.int .i32 loc] 36) := (RowAt.new w _ _).alloc _
    have V42 : Hid (RowAt (((w.alloc (.cells #[.int .i32 loc] 36)).alloc (.cells #[.nilIface, .int .i32 0] 38)).drewN nq) (w.heap.size + 1) #[.nilIface, .int .i32 0] 38) := RowAt.newAt (by simp)
    have HB0 := Lib.hid hbw
    clear hbw HH HIR
    generalize hW0 : ((w.alloc (.cells #[.int .i32 loc] 36)).alloc (.cells #[.nilIface, .int .i32 0] 38)).drewN nq = W0 at HS2 V32 V42 HB0 ⊢
    clear hW0 c23 c34 c36 c298 c299 g0 g1
    refine (rec36 B p src un mode fmt src n n ts j (.slice (some ⟨G, 0, none⟩) 1 gc) W0 hn hj HS2.out).mono ?_
    rintro e w5 ⟨rfl, hG5, hb5, hk5⟩
    have HG5 := Lib.hid hG5
    have HB5 := Lib.hid hb5
    have V35 := hk5 _ _ _ V32.out (.inl rfl)
    have V45 := hk5 _ _ _ V42.out (.inr (.inl rfl))
    obtain ⟨cs5, M5, ms5, S5, c5, ds5, vt5, rp5, pc5, _⟩ := id hG5
    have k0 := V35.cellv (j := 0) (v := .int .i32 loc) rfl
    have r0 := V45.cellv (j := 0) (v := .nilIface) rfl
    have r1 := V45.cellv (j := 1) (v := .int .i32 0) rfl
    have fr := V45.frozen
    have s298 := rp5.cellv pc5.c298
    have s299 := rp5.cellv pc5.c299
    have y3 := V35.lt
    have y4 := V45.lt
    have yp := rp5.lt
    have HV4 := Lib.hid V45
    clear hG5 hb5 hk5 V35 V45 rp5 pc5 V32 V42
    go_wp2_with fail
    go_region
    go_wp2_with fail
    have q : RowAt (World.alloc ((w5.setCell ⟨w.heap.size + 1, 0, none⟩ (.iface 203 (.pointer (some ⟨w5.heap.size, 0, none⟩)))).setCell ⟨w.heap.size + 1, 1, none⟩ (.int .i32 loc)) (.cells #[.int .u32 src, .int .u32 n, .bool false, .bool false, .bool false] 205)).drew (w.heap.size + 1) _ 38 := ((HV4.out.set 0 (.iface 203 (.pointer (some ⟨w5.heap.size, 0, none⟩)))).set 1 (.int .i32 loc)).alloc _
    have q0 := q.cellv (j := 0) (v := (.iface 203 (.pointer (some ⟨w5.heap.size, 0, none⟩)))) rfl
    have q1 := q.cellv (j := 1) (v := .int .i32 loc) rfl
    refine bodyPost_ret (v := .tuple #[.agg #[(.iface 203 (.pointer (some ⟨w5.heap.size, 0, none⟩))), .int .i32 loc], .bool true]) (by simp [results, Tryd.results27, go_sem, q0, q1]) rfl ?_
    exact ⟨w5.heap.size, _, rfl, (show RowAt (World.alloc ((w5.setCell ⟨w.heap.size + 1, 0, none⟩ (.iface 203 (.pointer (some ⟨w5.heap.size, 0, none⟩)))).setCell ⟨w.heap.size + 1, 1, none⟩ (.int .i32 loc)) (.cells #[.int .u32 src, .int .u32 n, .bool false, .bool false, .bool false] 205)) w5.heap.size #[.int .u32 src, .int .u32 n, .bool false, .bool false, .bool false] 205 from RowAt.newAt (by simp)), rfl, rfl, ⟨_, _, StG.below ((HG5.out.kept38 HV4.out).kept38 (HV4.out.set 0 _)) ((Below.refl _ _).alloc (Nat.le_refl _) _).drew⟩,
      (((((HB0.out.mono hB).trans HB5.out).setCell (Nat.le_succ_of_le hB) _).setCell (Nat.le_succ_of_le hB) _).alloc (by simp; omega) _).drew⟩


end Go.Proofs.YtfmfniddnlpkmaaDoor
