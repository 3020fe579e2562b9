import Derived.Test.YtfmfniddnlpkmaaDoorKit
import Derived.Test.YtfmfniddnlpkmaaDoorViE
namespace Go.Proofs.YtfmfniddnlpkmaaDoor
open Go.ChangeShapes Go.WideShapes Go.ChangeAt Go.RowKit
set_option linter.unusedVariables false
set_option maxRecDepth 100000
set_option maxHeartbeats 2000000

theorem info51 : (Tryd.prog.info? 51).map (fun i => (i.zero, i.size, i.bytes)) = some (some (.agg #[.int .u32 0, .int .u32 0]), 2, 8) := by kernel_rfl
def StU (w : World) (B p : Nat) (src un mode fmt : Int) (n : Nat) (ts : Bool) (j : Nat) : Prop := ∃ G gc, StG w B p src un mode fmt n ts j src n (.slice (some ⟨G, 0, none⟩) 1 gc)
def Val27 (B p : Nat) (src un mode fmt loc : Int) (n : Nat) (ts : Bool) (j : Nat) (w : World) (e : Ending) (w' : World) : Prop := ∃ x es, e = .returned (.tuple #[.agg #[.iface 203 (.pointer (some ⟨x, 0, none⟩)), .int .i32 loc], .bool true]) ∧ RowAt w' x es 205 ∧ es[0]? = some (.int .u32 src) ∧ es[1]? = some (.int .u32 n) ∧
  StU w' B p src un mode fmt n ts j ∧ Below B w w'
theorem PC.ref {cs : Array Value} {src un mode fmt m0 m1 a b : Int} {ts : Bool} {vs vt : Value} {M : Nat} (h : PC cs src un mode fmt ts vs vt M m0 m1) : PC ((cs.setIfInBounds 298 (.int .u32 a)).setIfInBounds 299 (.int .u32 b)) src un mode fmt ts vs vt M a b := by
  have h1 : 298 < cs.size := (Array.getElem?_eq_some_iff.1 h.c298).1
  have h2 : 299 < (cs.setIfInBounds 298 (.int .u32 a)).size := by simpa using (Array.getElem?_eq_some_iff.1 h.c299).1
  have s : ∀ {j : Nat} {v : Value}, 298 ≠ j → 299 ≠ j → cs[j]? = some v → ((cs.setIfInBounds 298 (.int .u32 a)).setIfInBounds 299 (.int .u32 b))[j]? = some v := fun e1 e2 h => set_ne e2 (set_ne e1 h)
  exact ⟨s (by decide) (by decide) h.c23, s (by decide) (by decide) h.c32, s (by decide) (by decide) h.c34, s (by decide) (by decide) h.c36, s (by decide) (by decide) h.c66, s (by decide) (by decide) h.c105, s (by decide) (by decide) h.c106, s (by decide) (by decide) h.c108, s (by decide) (by decide) h.c187, set_ne (by decide) (set_eq h1), set_eq h2, s (by decide) (by decide) h.c350⟩
theorem StG.ref {w : World} {B p n j : Nat} {src un mode fmt m0 m1 : Int} {ts : Bool} {gv : Value} (h : StG w B p src un mode fmt n ts j m0 m1 gv) (a b : Int) : StG ((w.setCell ⟨p, 298, none⟩ (.int .u32 a)).setCell ⟨p, 299, none⟩ (.int .u32 b)) B p src un mode fmt n ts j a b gv := by
  obtain ⟨cs, M, ms, S, c, ds, vt, rp, pc, rm, m5, rs, hd, hu, bp, bm, bs⟩ := h
  refine ⟨_, M, ms, S, c, ds, vt, (rp.set 298 _).set 299 _, pc.ref, (rm.set_other (rm.ne rp (by decide)) _ _).set_other (rm.ne rp (by decide)) _ _, m5, (rs.set_other (rs.ne rp (by decide)) _ _).set_other (rs.ne rp (by decide)) _ _, hd, fun e => ?_, bp, bm, bs⟩
  obtain ⟨U, uc, us, x, h1, h2, h3, h4⟩ := hu e
  exact ⟨U, uc, us, x, h1, (h2.set_other (h2.ne rp (by decide)) _ _).set_other (h2.ne rp (by decide)) _ _, h3, h4⟩
theorem StG.kept38 {w : World} {B p n j b o : Nat} {src un mode fmt m0 m1 : Int} {ts : Bool} {gv v : Value} {es : Array Value} (h : StG w B p src un mode fmt n ts j m0 m1 gv) (hr : RowAt w b es 38) : StG (w.setCell ⟨b, o, none⟩ v) B p src un mode fmt n ts j m0 m1 gv := by
  obtain ⟨cs, M, ms, S, c, ds, vt, rp, pc, rm, m5, rs, hd, hu, bp, bm, bs⟩ := h
  refine ⟨cs, M, ms, S, c, ds, vt, rp.set_other (rp.ne hr (by decide)) _ _, pc, rm.set_other (rm.ne hr (by decide)) _ _, m5, rs.set_other (rs.ne hr (by decide)) _ _, hd, fun e => ?_, bp, bm, bs⟩
  obtain ⟨U, uc, us, x, h1, h2, h3, h4⟩ := hu e
  exact ⟨U, uc, us, x, h1, h2.set_other (h2.ne hr (by decide)) _ _, h3, h4⟩

set_option maxHeartbeats 8000000 in
theorem val27A (B p : Nat) (src un mode fmt loc : Int) (n : Nat) (ts : Bool) (w : World) (hn : n ≤ 4096) (hI : IR w) (hB0 : 0 < B) (h : StA w B p src un mode fmt n ts) (hr : rew un mode fmt = true) :
    Calls Tryd.prog 27 #[.pointer (some ⟨p, 0, none⟩), .agg #[.int .i32 loc]] w (Val27 B p src un mode fmt loc n ts 1 w) := by
  have hB := h.base
  obtain ⟨i0, hi, hz0, hz1, hz2⟩ := info_parts info51
  obtain ⟨cs', M', ms', S', xs', vt', rp, pc, rm, m5, ho, hu, bp0, bm0⟩ := id h
  have c23 := rp.cellv pc.c23
  have c34 := rp.cellv pc.c34
  have c36 := rp.cellv pc.c36
  have c298 := rp.cellv pc.c298
  have c299 := rp.cellv pc.c299
  have zp := rp.lt
  have zp1 : p < w.heap.size + 1 := by omega
  have zp2 : p < w.heap.size + 1 + 1 := by omega
  obtain ⟨g0, g1⟩ := id hI
  have zI : 0 < w.heap.size := cell_lt hI.1
  have zI1 : 0 < w.heap.size + 1 := by omega
  have HIR := Lib.hid hI
  have H33 := Lib.hid (fun W => has33 un W)
  have H34 := Lib.hid (fun W => keep34 fmt W)
  unfold rew at hr
  obtain ⟨q, hq⟩ : ∃ q, (bits BinOp.and IntKind.u64 un 17179869184 != 0) = q := ⟨_, rfl⟩
  obtain ⟨k, hk⟩ : ∃ k, (fmt == 0 || fmt == 3) = k := ⟨_, rfl⟩
  rw [hq] at H33
  rw [hk] at H34
  rw [hq, hk] at hr
  have HH := Lib.hid h
  clear hq hk rp pc rm m5 ho hu h hI
  cases q
  · have hm : mode ≠ 0 := fun e => by subst e; simp at hr
    have hm' : (mode == 0) = false := by simpa using hm
    have hm2 : (mode != 0) = true := by simpa using hm
    have hk : k = false := by
      cases k
      · rfl
      · simp at hr
    subst hk
    clear hr
    go_enter Tryd.func27, Tryd.ntmps27
    go_wp2_with (first | (go_at_call 33; refine (H33.out _).mono ?_; rintro e wx ⟨rfl, rfl⟩) | (go_at_call 34; refine (H34.out _).mono ?_; rintro e wx ⟨rfl, rfl⟩))
    go_quiet (fail)
    go_wp2_with fail
    have hbw : Below w.heap.size w (((w.alloc (.cells #[.int .i32 loc] 36)).alloc (.cells #[.nilIface, .int .i32 0] 38)).drewN nq) := ⟨rfl, rfl, rfl, by simp; omega, fun j hj => (Below.heap_alloc _ _ _ (by simp; omega)).trans (Below.heap_alloc _ _ _ hj)⟩
    have A0 := Lib.hid (HH.out.below hbw)
    have I0 := Lib.hid (HIR.out.below hbw)
    have V3 : Hid (RowAt (((w.alloc (.cells #[.int .i32 loc] 36)).alloc (.cells #[.nilIface, .int .i32 0] 38)).drewN nq) w.heap.size #[.int .i32 loc] 36) := (RowAt.new w _ _).alloc _
    have V4 : Hid (RowAt (((w.alloc (.cells #[.int .i32 loc] 36)).alloc (.cells #[.nilIface, .int .i32 0] 38)).drewN nq) (w.heap.size + 1) #[.nilIface, .int .i32 0] 38) := RowAt.newAt (by simp)
    have HB0 := Lib.hid hbw
    clear hbw HH HIR
    generalize hW0 : ((w.alloc (.cells #[.int .i32 loc] 36)).alloc (.cells #[.nilIface, .int .i32 0] 38)).drewN nq = W0 at A0 I0 V3 V4 HB0 ⊢
    clear hW0 c23 c34 c36 c298 c299 g0 g1
    refine (sym35 B p src un mode fmt n ts W0 hn I0.out hB0 (Nat.le_trans hB HB0.out.size) A0.out).mono ?_
    rintro e w1 ⟨rfl, hG, hb1, hk1⟩
    have V31 := Lib.hid (hk1 _ _ _ V3.out (.inl rfl))
    have V41 := Lib.hid (hk1 _ _ _ V4.out (.inr (.inl rfl)))
    have HB1 := Lib.hid ((HB0.out.mono hB).trans hb1)
    have HG1 := Lib.hid (hG.ref src n)
    obtain ⟨cs0, M0, ms0, S0, c0, ds0, vt0, rp0, pc0, _⟩ := id hG
    have i298 := rp0.cellv pc0.c298
    have i299 := rp0.cellv pc0.c299
    have fi := rp0.frozen
    have zp1' := rp0.lt
    have HR0 := Lib.hid rp0
    clear V3 V4 HB0 A0 I0 hG hb1 hk1 rp0 pc0
    go_wp2_with fail
    have V31' : Hid (RowAt ((w1.setCell ⟨p, 298, none⟩ (.int .u32 src)).setCell ⟨p, 299, none⟩ (.int .u32 n)) w.heap.size #[.int .i32 loc] 36) := (V31.out.set_other (V31.out.ne HR0.out (by decide)) _ _).set_other (V31.out.ne HR0.out (by decide)) _ _
    have V41' : Hid (RowAt ((w1.setCell ⟨p, 298, none⟩ (.int .u32 src)).setCell ⟨p, 299, none⟩ (.int .u32 n)) (w.heap.size + 1) #[.nilIface, .int .i32 0] 38) := (V41.out.set_other (V41.out.ne HR0.out (by decide)) _ _).set_other (V41.out.ne HR0.out (by decide)) _ _
    have HBB : Hid (Below B w ((w1.setCell ⟨p, 298, none⟩ (.int .u32 src)).setCell ⟨p, 299, none⟩ (.int .u32 n))) := (HB1.out.setCell bp0 _).setCell bp0 _
    clear V31 V41 HB1 HR0 i298 i299 fi zp1'
    generalize hW : (w1.setCell ⟨p, 298, none⟩ (.int .u32 src)).setCell ⟨p, 299, none⟩ (.int .u32 n) = W at HG1 V31' V41' HBB ⊢
    clear hW
    have V31 := V31'
    have V41 := V41'
    clear V31' V41'
    obtain ⟨cs, M, ms, S, c, ds, vt, rp, pc, rm, m5, rs, hd, hu, bp, bm, bs⟩ := id HG1.out
    have c187 := rp.cellv pc.c187
    have c298 := rp.cellv pc.c298
    have c299 := rp.cellv pc.c299
    have c5 := rm.cellv m5
    have f5 := rm.frozen 5
    have zp := rp.lt
    have zm := rm.lt
    have hnm : p ≠ M := rp.ne rm (by decide)
    have HBW : Hid (B ≤ W.heap.size) := by show B ≤ W.heap.size; omega
    have HA : Hid (((W.alloc (.cells #[.int .u32 src, .int .u32 n] 51)).drew).ownsRow B 51 2 (.slice none 0 0) 0 []) := ⟨rfl, .inl ⟨rfl, rfl⟩⟩
    have HNW : Hid (∀ j u, ([.int .u32 src, .int .u32 n] : List Value)[j]? = some u → ((W.alloc (.cells #[.int .u32 src, .int .u32 n] 51)).drew).cell? ((⟨W.heap.size, 0, none⟩ : Addr).add j) = some u) := cell_list (t := 51) (RowAt.newAt (W := W) rfl)
    have HPR := Lib.hid rp
    have HPC := Lib.hid pc
    have HMR := Lib.hid rm
    have HM5 := Lib.hid m5
    have HRS := Lib.hid rs
    have HD := Lib.hid hd
    have HU := Lib.hid hu
    have c5d : (W.alloc (.cells #[.int .u32 src, .int .u32 n] 51)).cell? ⟨M, 5, none⟩ = some (.slice none 0 0) := (rm.alloc _).cellv m5
    clear rp pc rm m5 rs hd hu HG1
    refine wp_region_held_drew (S := fun w' => w'.cell? ⟨p, 187, none⟩ = some (.pointer (some ⟨M, 0, none⟩)) ∧ w'.cell? ⟨p, 298, none⟩ = some (.int .u32 src) ∧ w'.cell? ⟨p, 299, none⟩ = some (.int .u32 n)) (by kernel_rfl) (by go_keep) (fun hHeld => ?_)
    refine wpAnyH_take (i := 0) (v := ?_) rfl (by kernel_rfl) (by kernel_rfl) (by kernel_rfl) (fun _ _ _ h => h) (Or.inl ⟨by rfl, ?_⟩) (by assumption) ?_
    rotate_left
    · (intro w' hSw; (try dsimp only at hSw); go_simp; with_reducible rfl)
    try simp only [List.getElem_toArray, List.getElem_cons_zero, List.getElem_cons_succ, Act.put, List.setIfInBounds_toArray, List.set_cons_zero, List.set_cons_succ]
    refine wpAnyH_take (i := 1) (v := ?_) rfl (by kernel_rfl) (by kernel_rfl) (by kernel_rfl) (fun _ _ _ h => h) (Or.inl ⟨by rfl, ?_⟩) (by assumption) ?_
    rotate_left
    · (intro w' hSw; (try dsimp only at hSw); go_simp; with_reducible rfl)
    try simp only [List.getElem_toArray, List.getElem_cons_zero, List.getElem_cons_succ, Act.put, List.setIfInBounds_toArray, List.set_cons_zero, List.set_cons_succ]
    refine wpAnyH_take (i := 2) (v := ?_) rfl (by kernel_rfl) (by kernel_rfl) (by kernel_rfl) (fun _ _ _ h => h) (Or.inl ⟨by rfl, ?_⟩) (by assumption) ?_
    rotate_left
    · (intro w' hSw; (try dsimp only at hSw); go_simp; with_reducible rfl)
    try simp only [List.getElem_toArray, List.getElem_cons_zero, List.getElem_cons_succ, Act.put, List.setIfInBounds_toArray, List.set_cons_zero, List.set_cons_succ]
    refine wpAnyH_take (i := 3) (v := ?_) rfl (by kernel_rfl) (by kernel_rfl) (by kernel_rfl) (fun _ _ _ h => h) (Or.inl ⟨by rfl, ?_⟩) (by assumption) ?_
    rotate_left
    · (intro w' hSw; (try dsimp only at hSw); go_simp; with_reducible rfl)
    try simp only [List.getElem_toArray, List.getElem_cons_zero, List.getElem_cons_succ, Act.put, List.setIfInBounds_toArray, List.set_cons_zero, List.set_cons_succ]
    refine wpAnyH_take (i := 4) (v := ?_) rfl (by kernel_rfl) (by kernel_rfl) (by kernel_rfl) (fun _ _ _ h => h) (Or.inl ⟨by rfl, ?_⟩) (by assumption) ?_
    rotate_left
    · (intro w' hSw; (try dsimp only at hSw); go_simp; with_reducible rfl)
    try simp only [List.getElem_toArray, List.getElem_cons_zero, List.getElem_cons_succ, Act.put, List.setIfInBounds_toArray, List.set_cons_zero, List.set_cons_succ]
    refine wpAnyH_take (i := 5) (v := ?_) rfl (by kernel_rfl) (by kernel_rfl) (by kernel_rfl) (fun _ _ _ h => h) (Or.inl ⟨by rfl, ?_⟩) (by assumption) ?_
    rotate_left
    · (intro w' hSw; (try dsimp only at hSw); go_simp; with_reducible rfl)
    try simp only [List.getElem_toArray, List.getElem_cons_zero, List.getElem_cons_succ, Act.put, List.setIfInBounds_toArray, List.set_cons_zero, List.set_cons_succ]
    refine wpAnyH_take (i := 6) (v := ?_) rfl (by kernel_rfl) (by kernel_rfl) (by kernel_rfl) (fun _ _ _ h => h) (Or.inl ⟨by rfl, ?_⟩) (by assumption) ?_
    rotate_left
    · (intro w' hSw; (try dsimp only at hSw); go_simp; with_reducible rfl)
    try simp only [List.getElem_toArray, List.getElem_cons_zero, List.getElem_cons_succ, Act.put, List.setIfInBounds_toArray, List.set_cons_zero, List.set_cons_succ]
    refine wpAnyH_take (i := 7) (v := ?_) rfl (by kernel_rfl) (by kernel_rfl) (by kernel_rfl) (fun _ _ _ h => h) (Or.inl ⟨by rfl, ?_⟩) (by assumption) ?_
    rotate_left
    · (intro w' hSw; (try dsimp only at hSw); go_simp; with_reducible rfl)
    try simp only [List.getElem_toArray, List.getElem_cons_zero, List.getElem_cons_succ, Act.put, List.setIfInBounds_toArray, List.set_cons_zero, List.set_cons_succ]
    refine wpAnyH_take (i := 8) (v := ?_) rfl (by kernel_rfl) (by kernel_rfl) (by kernel_rfl) (fun _ _ _ h => h) (Or.inl ⟨by rfl, ?_⟩) (by assumption) ?_
    rotate_left
    · (intro w' hSw; (try dsimp only at hSw); go_simp; with_reducible rfl)
    try simp only [List.getElem_toArray, List.getElem_cons_zero, List.getElem_cons_succ, Act.put, List.setIfInBounds_toArray, List.set_cons_zero, List.set_cons_succ]
    refine wpAnyH_take (i := 9) (v := ?_) rfl (by kernel_rfl) (by kernel_rfl) (by kernel_rfl) (fun _ _ _ h => h) (Or.inl ⟨by rfl, ?_⟩) (by assumption) ?_
    rotate_left
    · (intro w' hSw; (try dsimp only at hSw); go_simp; with_reducible rfl)
    try simp only [List.getElem_toArray, List.getElem_cons_zero, List.getElem_cons_succ, Act.put, List.setIfInBounds_toArray, List.set_cons_zero, List.set_cons_succ]
    refine wpAnyH_take (i := 11) (v := ?_) rfl (by kernel_rfl) (by kernel_rfl) (by kernel_rfl) (fun _ _ _ h => h) (Or.inl ⟨by rfl, ?_⟩) (by assumption) ?_
    rotate_left
    · (intro w' hSw; (try dsimp only at hSw); go_simp; with_reducible rfl)
    try simp only [List.getElem_toArray, List.getElem_cons_zero, List.getElem_cons_succ, Act.put, List.setIfInBounds_toArray, List.set_cons_zero, List.set_cons_succ]
    refine wpAnyH_take (i := 12) (v := ?_) rfl (by kernel_rfl) (by kernel_rfl) (by kernel_rfl) (fun _ _ _ h => h) (Or.inl ⟨by rfl, ?_⟩) (by assumption) ?_
    rotate_left
    · (intro w' hSw; (try dsimp only at hSw); go_simp; with_reducible rfl)
    try simp only [List.getElem_toArray, List.getElem_cons_zero, List.getElem_cons_succ, Act.put, List.setIfInBounds_toArray, List.set_cons_zero, List.set_cons_succ]
    refine wpAnyH_take (i := 13) (v := ?_) rfl (by kernel_rfl) (by kernel_rfl) (by kernel_rfl) (fun _ _ _ h => h) (Or.inl ⟨by rfl, ?_⟩) (by assumption) ?_
    rotate_left
    · (intro w' hSw; (try dsimp only at hSw); go_simp; with_reducible rfl)
    try simp only [List.getElem_toArray, List.getElem_cons_zero, List.getElem_cons_succ, Act.put, List.setIfInBounds_toArray, List.set_cons_zero, List.set_cons_succ]
    refine wpAnyH_take (i := 14) (v := ?_) rfl (by kernel_rfl) (by kernel_rfl) (by kernel_rfl) (fun _ _ _ h => h) (Or.inl ⟨by rfl, ?_⟩) (by assumption) ?_
    rotate_left
    · (intro w' hSw; (try dsimp only at hSw); go_simp; with_reducible rfl)
    try simp only [List.getElem_toArray, List.getElem_cons_zero, List.getElem_cons_succ, Act.put, List.setIfInBounds_toArray, List.set_cons_zero, List.set_cons_succ]
    refine wpAnyH_ready (rs := [10, 15]) (by kernel_rfl) (by simp) ?_
    refine AllReadyH.cons rfl (fun K hK => ?_) (AllReadyH.cons rfl (fun K hK => ?_) AllReadyH.nil)
    · simp only [List.getElem_toArray, List.getElem_cons_zero, List.getElem_cons_succ]
      go_simp
      refine hK.out _ _ (by go_keep) (fun hHeld => ?_)
      clear hK K
      try simp only [List.getElem_toArray, List.getElem_cons_zero, List.getElem_cons_succ, Act.put, List.setIfInBounds_toArray, List.set_cons_zero, List.set_cons_succ]
      refine wpAnyH_ready (rs := [15]) (by kernel_rfl) (by simp) ?_
      refine AllReadyH.cons rfl (fun K hK => ?_) AllReadyH.nil
      simp only [List.getElem_toArray, List.getElem_cons_zero, List.getElem_cons_succ]
      go_simp
      refine hK.out _ _ (by go_keep) (fun hHeld => ?_)
      clear hK K
      try simp only [List.getElem_toArray, List.getElem_cons_zero, List.getElem_cons_succ, Act.put, List.setIfInBounds_toArray, List.set_cons_zero, List.set_cons_succ]
      refine wpAnyH_ready (rs := [16]) (by kernel_rfl) (by simp) ?_
      refine AllReadyH.cons rfl (fun K hK => ?_) AllReadyH.nil
      refine step_append_lies _ (by rfl) _ _ _ (by rfl) B 51 i0 _ 2 8 Tryd.underlying132 hi hz0 hz1 hz2 rfl (by decide) (.slice none 0 0) 0 [] (by rfl) HA.out ⟨W.heap.size, 0, none⟩ 1 1 [.int .u32 src, .int .u32 n] (by rfl) (by rfl) HNW.out (by simp [Value.oneCell']) (by decide) (by unfold maxLen; omega) (by omega) (by have := HBW.out; simp; omega) (W.heap.size + 1) (by simp) ?_
      intro g cap w2 hown2 hgrow hat2 hlt2
      have hb2 : Below W.heap.size W w2 := Below.grown ((Below.refl _ _).alloc (Nat.le_refl _) _).drew hgrow (by simp) (fun k e => by cases e)
      have p2' : RowAt w2 p cs 184 := HPR.out.below hb2 HPR.out.lt
      have m2' : RowAt w2 M ms 198 := HMR.out.below hb2 HMR.out.lt
      have g2 := m2'.frozen 5
      have g3 := m2'.cellv HM5.out
      have HBW2 := Lib.hid hb2
      clear hown2 hat2 hgrow hb2
      refine hK.out _ _ ⟨p2'.cellv HPC.out.c187, p2'.cellv HPC.out.c298, p2'.cellv HPC.out.c299⟩ (fun hHeld => ?_)
      clear hK K
      try simp only [List.getElem_toArray, List.getElem_cons_zero, List.getElem_cons_succ, Act.put, List.setIfInBounds_toArray, List.set_cons_zero, List.set_cons_succ]
      refine wpAnyH_take (i := 17) (v := ?_) rfl (by kernel_rfl) (by kernel_rfl) (by kernel_rfl) (fun _ _ _ h => h) (Or.inl ⟨by rfl, ?_⟩) (by assumption) ?_
      rotate_left
      · (intro w' hSw; (try dsimp only at hSw); go_simp; with_reducible rfl)
      try simp only [List.getElem_toArray, List.getElem_cons_zero, List.getElem_cons_succ, Act.put, List.setIfInBounds_toArray, List.set_cons_zero, List.set_cons_succ]
      refine wpAnyH_take (i := 18) (v := ?_) rfl (by kernel_rfl) (by kernel_rfl) (by kernel_rfl) (fun _ _ _ h => h) (Or.inl ⟨by rfl, ?_⟩) (by assumption) ?_
      rotate_left
      · (intro w' hSw; (try dsimp only at hSw); go_simp; with_reducible rfl)
      try simp only [List.getElem_toArray, List.getElem_cons_zero, List.getElem_cons_succ, Act.put, List.setIfInBounds_toArray, List.set_cons_zero, List.set_cons_succ]
      refine wpAnyH_ready (rs := [19]) (by kernel_rfl) (by simp) ?_
      refine AllReadyH.cons rfl (fun K hK => ?_) AllReadyH.nil
      simp only [List.getElem_toArray, List.getElem_cons_zero, List.getElem_cons_succ]
      go_simp
      refine hK.out _ _ ⟨(store_far hnm _ _).trans (p2'.cellv HPC.out.c187), (store_far hnm _ _).trans (p2'.cellv HPC.out.c298), (store_far hnm _ _).trans (p2'.cellv HPC.out.c299)⟩ (fun hHeld => ?_)
      clear hK K
      try simp only [List.getElem_toArray, List.getElem_cons_zero, List.getElem_cons_succ, Act.put, List.setIfInBounds_toArray, List.set_cons_zero, List.set_cons_succ]
      refine wpAnyH_done (by kernel_rfl) ?_ _
      have HS2 : Hid (StG (w2.setCell ⟨M, 5, none⟩ (.slice (some ⟨g, 0, none⟩) 1 cap)) B p src un mode fmt n ts 0 src n (.slice (some ⟨g, 0, none⟩) 1 cap)) := by
        refine ⟨cs, M, _, S, c, ds, vt, p2'.set_other hnm _ _, HPC.out, m2'.set 5 _, set_eq (Array.getElem?_eq_some_iff.1 HM5.out).1, (HRS.out.below HBW2.out HRS.out.lt).set_other (HRS.out.ne HMR.out (by decide)) _ _, HD.out, fun e => ?_, bp, bm, bs⟩
        obtain ⟨U, uc, us, x, h1, h2, h3, h4⟩ := HU.out e
        exact ⟨U, uc, us, x, h1, (h2.below HBW2.out h2.lt).set_other (h2.ne HMR.out (by decide)) _ _, h3, h4⟩
      have V32 : Hid (RowAt (w2.setCell ⟨M, 5, none⟩ (.slice (some ⟨g, 0, none⟩) 1 cap)) w.heap.size #[.int .i32 loc] 36) := (V31.out.below HBW2.out V31.out.lt).set_other (V31.out.ne HMR.out (by decide)) _ _
      have V42 : Hid (RowAt (w2.setCell ⟨M, 5, none⟩ (.slice (some ⟨g, 0, none⟩) 1 cap)) (w.heap.size + 1) #[.nilIface, .int .i32 0] 38) := (V41.out.below HBW2.out V41.out.lt).set_other (V41.out.ne HMR.out (by decide)) _ _
      have HBL : Hid (Below B w (w2.setCell ⟨M, 5, none⟩ (.slice (some ⟨g, 0, none⟩) 1 cap))) := (HBB.out.trans (HBW2.out.mono HBW.out)).setCell bm _
      have p298 := (p2'.set_other hnm 5 (.slice (some ⟨g, 0, none⟩) 1 cap)).cellv HPC.out.c298
      have p299 := (p2'.set_other hnm 5 (.slice (some ⟨g, 0, none⟩) 1 cap)).cellv HPC.out.c299
      have yp := (p2'.set_other hnm 5 (.slice (some ⟨g, 0, none⟩) 1 cap)).lt
      generalize hW2 : w2.setCell ⟨M, 5, none⟩ (.slice (some ⟨g, 0, none⟩) 1 cap) = W2 at HS2 V32 V42 HBL p298 p299 yp hHeld ⊢
      clear hW2 hHeld c187 c298 c299 c5d f5 HA HNW HPR HMR HM5 HPC HRS HD HU HBW HBB V31 V41 p2' m2' g2 g3 HBW2
      go_wp2_with fail
      refine (rec36 B p src un mode fmt src n n ts 0 (.slice (some ⟨g, 0, none⟩) 1 cap) W2 hn (by omega) HS2.out).mono ?_
      rintro e w5 ⟨rfl, hG5, hb5, hk5⟩
      have HG5 := Lib.hid hG5
      have HB5 := Lib.hid hb5
      have V35 := hk5 _ _ _ V32.out (.inl rfl)
      have V45 := hk5 _ _ _ V42.out (.inr (.inl rfl))
      obtain ⟨cs5, M5, ms5, S5, c5, ds5, vt5, rp5, pc5, _⟩ := id hG5
      have k0 := V35.cellv (j := 0) (v := .int .i32 loc) rfl
      have r0 := V45.cellv (j := 0) (v := .nilIface) rfl
      have r1 := V45.cellv (j := 1) (v := .int .i32 0) rfl
      have fr := V45.frozen
      have s298 := rp5.cellv pc5.c298
      have s299 := rp5.cellv pc5.c299
      have y3 := V35.lt
      have y4 := V45.lt
      have yp := rp5.lt
      have HV4 := Lib.hid V45
      clear hG5 hb5 hk5 V35 V45 rp5 pc5 V32 V42
      go_wp2_with fail
      go_region
      go_wp2_with fail
      have q : RowAt (World.alloc ((w5.setCell ⟨w.heap.size + 1, 0, none⟩ (.iface 203 (.pointer (some ⟨w5.heap.size, 0, none⟩)))).setCell ⟨w.heap.size + 1, 1, none⟩ (.int .i32 loc)) (.cells #[.int .u32 src, .int .u32 n, .bool false, .bool false, .bool false] 205)).drew (w.heap.size + 1) _ 38 := ((HV4.out.set 0 (.iface 203 (.pointer (some ⟨w5.heap.size, 0, none⟩)))).set 1 (.int .i32 loc)).alloc _
      have q0 := q.cellv (j := 0) (v := (.iface 203 (.pointer (some ⟨w5.heap.size, 0, none⟩)))) rfl
      have q1 := q.cellv (j := 1) (v := .int .i32 loc) rfl
      refine bodyPost_ret (v := .tuple #[.agg #[(.iface 203 (.pointer (some ⟨w5.heap.size, 0, none⟩))), .int .i32 loc], .bool true]) (by simp [results, Tryd.results27, go_sem, q0, q1]) rfl ?_
      exact ⟨w5.heap.size, _, rfl, (show RowAt (World.alloc ((w5.setCell ⟨w.heap.size + 1, 0, none⟩ (.iface 203 (.pointer (some ⟨w5.heap.size, 0, none⟩)))).setCell ⟨w.heap.size + 1, 1, none⟩ (.int .i32 loc)) (.cells #[.int .u32 src, .int .u32 n, .bool false, .bool false, .bool false] 205)) w5.heap.size #[.int .u32 src, .int .u32 n, .bool false, .bool false, .bool false] 205 from RowAt.newAt (by simp)), rfl, rfl, ⟨_, _, StG.below ((HG5.out.kept38 HV4.out).kept38 (HV4.out.set 0 _)) ((Below.refl _ _).alloc (Nat.le_refl _) _).drew⟩,
        ((((HBL.out.trans HB5.out).setCell (Nat.le_succ_of_le hB) _).setCell (Nat.le_succ_of_le hB) _).alloc (by simp; omega) _).drew⟩
    · simp only [List.getElem_toArray, List.getElem_cons_zero, List.getElem_cons_succ]
      go_simp
      refine hK.out _ _ (by go_keep) (fun hHeld => ?_)
      clear hK K
      try simp only [List.getElem_toArray, List.getElem_cons_zero, List.getElem_cons_succ, Act.put, List.setIfInBounds_toArray, List.set_cons_zero, List.set_cons_succ]
      refine wpAnyH_ready (rs := [10]) (by kernel_rfl) (by simp) ?_
      refine AllReadyH.cons rfl (fun K hK => ?_) AllReadyH.nil
      simp only [List.getElem_toArray, List.getElem_cons_zero, List.getElem_cons_succ]
      go_simp
      refine hK.out _ _ (by go_keep) (fun hHeld => ?_)
      clear hK K
      try simp only [List.getElem_toArray, List.getElem_cons_zero, List.getElem_cons_succ, Act.put, List.setIfInBounds_toArray, List.set_cons_zero, List.set_cons_succ]
      refine wpAnyH_ready (rs := [16]) (by kernel_rfl) (by simp) ?_
      refine AllReadyH.cons rfl (fun K hK => ?_) AllReadyH.nil
      refine step_append_lies _ (by rfl) _ _ _ (by rfl) B 51 i0 _ 2 8 Tryd.underlying132 hi hz0 hz1 hz2 rfl (by decide) (.slice none 0 0) 0 [] (by rfl) HA.out ⟨W.heap.size, 0, none⟩ 1 1 [.int .u32 src, .int .u32 n] (by rfl) (by rfl) HNW.out (by simp [Value.oneCell']) (by decide) (by unfold maxLen; omega) (by omega) (by have := HBW.out; simp; omega) (W.heap.size + 1) (by simp) ?_
      intro g cap w2 hown2 hgrow hat2 hlt2
      have hb2 : Below W.heap.size W w2 := Below.grown ((Below.refl _ _).alloc (Nat.le_refl _) _).drew hgrow (by simp) (fun k e => by cases e)
      have p2' : RowAt w2 p cs 184 := HPR.out.below hb2 HPR.out.lt
      have m2' : RowAt w2 M ms 198 := HMR.out.below hb2 HMR.out.lt
      have g2 := m2'.frozen 5
      have g3 := m2'.cellv HM5.out
      have HBW2 := Lib.hid hb2
      clear hown2 hat2 hgrow hb2
      refine hK.out _ _ ⟨p2'.cellv HPC.out.c187, p2'.cellv HPC.out.c298, p2'.cellv HPC.out.c299⟩ (fun hHeld => ?_)
      clear hK K
      try simp only [List.getElem_toArray, List.getElem_cons_zero, List.getElem_cons_succ, Act.put, List.setIfInBounds_toArray, List.set_cons_zero, List.set_cons_succ]
      refine wpAnyH_take (i := 17) (v := ?_) rfl (by kernel_rfl) (by kernel_rfl) (by kernel_rfl) (fun _ _ _ h => h) (Or.inl ⟨by rfl, ?_⟩) (by assumption) ?_
      rotate_left
      · (intro w' hSw; (try dsimp only at hSw); go_simp; with_reducible rfl)
      try simp only [List.getElem_toArray, List.getElem_cons_zero, List.getElem_cons_succ, Act.put, List.setIfInBounds_toArray, List.set_cons_zero, List.set_cons_succ]
      refine wpAnyH_take (i := 18) (v := ?_) rfl (by kernel_rfl) (by kernel_rfl) (by kernel_rfl) (fun _ _ _ h => h) (Or.inl ⟨by rfl, ?_⟩) (by assumption) ?_
      rotate_left
      · (intro w' hSw; (try dsimp only at hSw); go_simp; with_reducible rfl)
      try simp only [List.getElem_toArray, List.getElem_cons_zero, List.getElem_cons_succ, Act.put, List.setIfInBounds_toArray, List.set_cons_zero, List.set_cons_succ]
      refine wpAnyH_ready (rs := [19]) (by kernel_rfl) (by simp) ?_
      refine AllReadyH.cons rfl (fun K hK => ?_) AllReadyH.nil
      simp only [List.getElem_toArray, List.getElem_cons_zero, List.getElem_cons_succ]
      go_simp
      refine hK.out _ _ ⟨(store_far hnm _ _).trans (p2'.cellv HPC.out.c187), (store_far hnm _ _).trans (p2'.cellv HPC.out.c298), (store_far hnm _ _).trans (p2'.cellv HPC.out.c299)⟩ (fun hHeld => ?_)
      clear hK K
      try simp only [List.getElem_toArray, List.getElem_cons_zero, List.getElem_cons_succ, Act.put, List.setIfInBounds_toArray, List.set_cons_zero, List.set_cons_succ]
      refine wpAnyH_done (by kernel_rfl) ?_ _
      have HS2 : Hid (StG (w2.setCell ⟨M, 5, none⟩ (.slice (some ⟨g, 0, none⟩) 1 cap)) B p src un mode fmt n ts 0 src n (.slice (some ⟨g, 0, none⟩) 1 cap)) := by
        refine ⟨cs, M, _, S, c, ds, vt, p2'.set_other hnm _ _, HPC.out, m2'.set 5 _, set_eq (Array.getElem?_eq_some_iff.1 HM5.out).1, (HRS.out.below HBW2.out HRS.out.lt).set_other (HRS.out.ne HMR.out (by decide)) _ _, HD.out, fun e => ?_, bp, bm, bs⟩
        obtain ⟨U, uc, us, x, h1, h2, h3, h4⟩ := HU.out e
        exact ⟨U, uc, us, x, h1, (h2.below HBW2.out h2.lt).set_other (h2.ne HMR.out (by decide)) _ _, h3, h4⟩
      have V32 : Hid (RowAt (w2.setCell ⟨M, 5, none⟩ (.slice (some ⟨g, 0, none⟩) 1 cap)) w.heap.size #[.int .i32 loc] 36) := (V31.out.below HBW2.out V31.out.lt).set_other (V31.out.ne HMR.out (by decide)) _ _
      have V42 : Hid (RowAt (w2.setCell ⟨M, 5, none⟩ (.slice (some ⟨g, 0, none⟩) 1 cap)) (w.heap.size + 1) #[.nilIface, .int .i32 0] 38) := (V41.out.below HBW2.out V41.out.lt).set_other (V41.out.ne HMR.out (by decide)) _ _
      have HBL : Hid (Below B w (w2.setCell ⟨M, 5, none⟩ (.slice (some ⟨g, 0, none⟩) 1 cap))) := (HBB.out.trans (HBW2.out.mono HBW.out)).setCell bm _
      have p298 := (p2'.set_other hnm 5 (.slice (some ⟨g, 0, none⟩) 1 cap)).cellv HPC.out.c298
      have p299 := (p2'.set_other hnm 5 (.slice (some ⟨g, 0, none⟩) 1 cap)).cellv HPC.out.c299
      have yp := (p2'.set_other hnm 5 (.slice (some ⟨g, 0, none⟩) 1 cap)).lt
      generalize hW2 : w2.setCell ⟨M, 5, none⟩ (.slice (some ⟨g, 0, none⟩) 1 cap) = W2 at HS2 V32 V42 HBL p298 p299 yp hHeld ⊢
      clear hW2 hHeld c187 c298 c299 c5d f5 HA HNW HPR HMR HM5 HPC HRS HD HU HBW HBB V31 V41 p2' m2' g2 g3 HBW2
      go_wp2_with fail
      refine (rec36 B p src un mode fmt src n n ts 0 (.slice (some ⟨g, 0, none⟩) 1 cap) W2 hn (by omega) HS2.out).mono ?_
      rintro e w5 ⟨rfl, hG5, hb5, hk5⟩
      have HG5 := Lib.hid hG5
      have HB5 := Lib.hid hb5
      have V35 := hk5 _ _ _ V32.out (.inl rfl)
      have V45 := hk5 _ _ _ V42.out (.inr (.inl rfl))
      obtain ⟨cs5, M5, ms5, S5, c5, ds5, vt5, rp5, pc5, _⟩ := id hG5
      have k0 := V35.cellv (j := 0) (v := .int .i32 loc) rfl
      have r0 := V45.cellv (j := 0) (v := .nilIface) rfl
      have r1 := V45.cellv (j := 1) (v := .int .i32 0) rfl
      have fr := V45.frozen
      have s298 := rp5.cellv pc5.c298
      have s299 := rp5.cellv pc5.c299
      have y3 := V35.lt
      have y4 := V45.lt
      have yp := rp5.lt
      have HV4 := Lib.hid V45
      clear hG5 hb5 hk5 V35 V45 rp5 pc5 V32 V42
      go_wp2_with fail
      go_region
      go_wp2_with fail
      have q : RowAt (World.alloc ((w5.setCell ⟨w.heap.size + 1, 0, none⟩ (.iface 203 (.pointer (some ⟨w5.heap.size, 0, none⟩)))).setCell ⟨w.heap.size + 1, 1, none⟩ (.int .i32 loc)) (.cells #[.int .u32 src, .int .u32 n, .bool false, .bool false, .bool false] 205)).drew (w.heap.size + 1) _ 38 := ((HV4.out.set 0 (.iface 203 (.pointer (some ⟨w5.heap.size, 0, none⟩)))).set 1 (.int .i32 loc)).alloc _
      have q0 := q.cellv (j := 0) (v := (.iface 203 (.pointer (some ⟨w5.heap.size, 0, none⟩)))) rfl
      have q1 := q.cellv (j := 1) (v := .int .i32 loc) rfl
      refine bodyPost_ret (v := .tuple #[.agg #[(.iface 203 (.pointer (some ⟨w5.heap.size, 0, none⟩))), .int .i32 loc], .bool true]) (by simp [results, Tryd.results27, go_sem, q0, q1]) rfl ?_
      exact ⟨w5.heap.size, _, rfl, (show RowAt (World.alloc ((w5.setCell ⟨w.heap.size + 1, 0, none⟩ (.iface 203 (.pointer (some ⟨w5.heap.size, 0, none⟩)))).setCell ⟨w.heap.size + 1, 1, none⟩ (.int .i32 loc)) (.cells #[.int .u32 src, .int .u32 n, .bool false, .bool false, .bool false] 205)) w5.heap.size #[.int .u32 src, .int .u32 n, .bool false, .bool false, .bool false] 205 from RowAt.newAt (by simp)), rfl, rfl, ⟨_, _, StG.below ((HG5.out.kept38 HV4.out).kept38 (HV4.out.set 0 _)) ((Below.refl _ _).alloc (Nat.le_refl _) _).drew⟩,
        ((((HBL.out.trans HB5.out).setCell (Nat.le_succ_of_le hB) _).setCell (Nat.le_succ_of_le hB) _).alloc (by simp; omega) _).drew⟩
  · clear hr
    go_enter Tryd.func27, Tryd.ntmps27
    go_wp2_with (first | (go_at_call 33; refine (H33.out _).mono ?_; rintro e wx ⟨rfl, rfl⟩) | (go_at_call 34; refine (H34.out _).mono ?_; rintro e wx ⟨rfl, rfl⟩))
    go_quiet (fail)
    go_wp2_with fail
    have hbw : Below w.heap.size w (((w.alloc (.cells #[.int .i32 loc] 36)).alloc (.cells #[.nilIface, .int .i32 0] 38)).drewN nq) := ⟨rfl, rfl, rfl, by simp; omega, fun j hj => (Below.heap_alloc _ _ _ (by simp; omega)).trans (Below.heap_alloc _ _ _ hj)⟩
    have A0 := Lib.hid (HH.out.below hbw)
    have I0 := Lib.hid (HIR.out.below hbw)
    have V3 : Hid (RowAt (((w.alloc (.cells #[.int .i32 loc] 36)).alloc (.cells #[.nilIface, .int .i32 0] 38)).drewN nq) w.heap.size #[.int .i32 loc] 36) := (RowAt.new w _ _).alloc _
    have V4 : Hid (RowAt (((w.alloc (.cells #[.int .i32 loc] 36)).alloc (.cells #[.nilIface, .int .i32 0] 38)).drewN nq) (w.heap.size + 1) #[.nilIface, .int .i32 0] 38) := RowAt.newAt (by simp)
    have HB0 := Lib.hid hbw
    clear hbw HH HIR
    generalize hW0 : ((w.alloc (.cells #[.int .i32 loc] 36)).alloc (.cells #[.nilIface, .int .i32 0] 38)).drewN nq = W0 at A0 I0 V3 V4 HB0 ⊢
    clear hW0 c23 c34 c36 c298 c299 g0 g1
    refine (sym35 B p src un mode fmt n ts W0 hn I0.out hB0 (Nat.le_trans hB HB0.out.size) A0.out).mono ?_
    rintro e w1 ⟨rfl, hG, hb1, hk1⟩
    have V31 := Lib.hid (hk1 _ _ _ V3.out (.inl rfl))
    have V41 := Lib.hid (hk1 _ _ _ V4.out (.inr (.inl rfl)))
    have HB1 := Lib.hid ((HB0.out.mono hB).trans hb1)
    have HG1 := Lib.hid (hG.ref src n)
    obtain ⟨cs0, M0, ms0, S0, c0, ds0, vt0, rp0, pc0, _⟩ := id hG
    have i298 := rp0.cellv pc0.c298
    have i299 := rp0.cellv pc0.c299
    have fi := rp0.frozen
    have zp1' := rp0.lt
    have HR0 := Lib.hid rp0
    clear V3 V4 HB0 A0 I0 hG hb1 hk1 rp0 pc0
    go_wp2_with fail
    have V31' : Hid (RowAt ((w1.setCell ⟨p, 298, none⟩ (.int .u32 src)).setCell ⟨p, 299, none⟩ (.int .u32 n)) w.heap.size #[.int .i32 loc] 36) := (V31.out.set_other (V31.out.ne HR0.out (by decide)) _ _).set_other (V31.out.ne HR0.out (by decide)) _ _
    have V41' : Hid (RowAt ((w1.setCell ⟨p, 298, none⟩ (.int .u32 src)).setCell ⟨p, 299, none⟩ (.int .u32 n)) (w.heap.size + 1) #[.nilIface, .int .i32 0] 38) := (V41.out.set_other (V41.out.ne HR0.out (by decide)) _ _).set_other (V41.out.ne HR0.out (by decide)) _ _
    have HBB : Hid (Below B w ((w1.setCell ⟨p, 298, none⟩ (.int .u32 src)).setCell ⟨p, 299, none⟩ (.int .u32 n))) := (HB1.out.setCell bp0 _).setCell bp0 _
    clear V31 V41 HB1 HR0 i298 i299 fi zp1'
    generalize hW : (w1.setCell ⟨p, 298, none⟩ (.int .u32 src)).setCell ⟨p, 299, none⟩ (.int .u32 n) = W at HG1 V31' V41' HBB ⊢
    clear hW
    have V31 := V31'
    have V41 := V41'
    clear V31' V41'
    obtain ⟨cs, M, ms, S, c, ds, vt, rp, pc, rm, m5, rs, hd, hu, bp, bm, bs⟩ := id HG1.out
    have c187 := rp.cellv pc.c187
    have c298 := rp.cellv pc.c298
    have c299 := rp.cellv pc.c299
    have c5 := rm.cellv m5
    have f5 := rm.frozen 5
    have zp := rp.lt
    have zm := rm.lt
    have hnm : p ≠ M := rp.ne rm (by decide)
    have HBW : Hid (B ≤ W.heap.size) := by show B ≤ W.heap.size; omega
    have HA : Hid (((W.alloc (.cells #[.int .u32 src, .int .u32 n] 51)).drew).ownsRow B 51 2 (.slice none 0 0) 0 []) := ⟨rfl, .inl ⟨rfl, rfl⟩⟩
    have HNW : Hid (∀ j u, ([.int .u32 src, .int .u32 n] : List Value)[j]? = some u → ((W.alloc (.cells #[.int .u32 src, .int .u32 n] 51)).drew).cell? ((⟨W.heap.size, 0, none⟩ : Addr).add j) = some u) := cell_list (t := 51) (RowAt.newAt (W := W) rfl)
    have HPR := Lib.hid rp
    have HPC := Lib.hid pc
    have HMR := Lib.hid rm
    have HM5 := Lib.hid m5
    have HRS := Lib.hid rs
    have HD := Lib.hid hd
    have HU := Lib.hid hu
    have c5d : (W.alloc (.cells #[.int .u32 src, .int .u32 n] 51)).cell? ⟨M, 5, none⟩ = some (.slice none 0 0) := (rm.alloc _).cellv m5
    clear rp pc rm m5 rs hd hu HG1
    refine wp_region_held_drew (S := fun w' => w'.cell? ⟨p, 187, none⟩ = some (.pointer (some ⟨M, 0, none⟩)) ∧ w'.cell? ⟨p, 298, none⟩ = some (.int .u32 src) ∧ w'.cell? ⟨p, 299, none⟩ = some (.int .u32 n)) (by kernel_rfl) (by go_keep) (fun hHeld => ?_)
    refine wpAnyH_take (i := 0) (v := ?_) rfl (by kernel_rfl) (by kernel_rfl) (by kernel_rfl) (fun _ _ _ h => h) (Or.inl ⟨by rfl, ?_⟩) (by assumption) ?_
    rotate_left
    · (intro w' hSw; (try dsimp only at hSw); go_simp; with_reducible rfl)
    try simp only [List.getElem_toArray, List.getElem_cons_zero, List.getElem_cons_succ, Act.put, List.setIfInBounds_toArray, List.set_cons_zero, List.set_cons_succ]
    refine wpAnyH_take (i := 1) (v := ?_) rfl (by kernel_rfl) (by kernel_rfl) (by kernel_rfl) (fun _ _ _ h => h) (Or.inl ⟨by rfl, ?_⟩) (by assumption) ?_
    rotate_left
    · (intro w' hSw; (try dsimp only at hSw); go_simp; with_reducible rfl)
    try simp only [List.getElem_toArray, List.getElem_cons_zero, List.getElem_cons_succ, Act.put, List.setIfInBounds_toArray, List.set_cons_zero, List.set_cons_succ]
    refine wpAnyH_take (i := 2) (v := ?_) rfl (by kernel_rfl) (by kernel_rfl) (by kernel_rfl) (fun _ _ _ h => h) (Or.inl ⟨by rfl, ?_⟩) (by assumption) ?_
    rotate_left
    · (intro w' hSw; (try dsimp only at hSw); go_simp; with_reducible rfl)
    try simp only [List.getElem_toArray, List.getElem_cons_zero, List.getElem_cons_succ, Act.put, List.setIfInBounds_toArray, List.set_cons_zero, List.set_cons_succ]
    refine wpAnyH_take (i := 3) (v := ?_) rfl (by kernel_rfl) (by kernel_rfl) (by kernel_rfl) (fun _ _ _ h => h) (Or.inl ⟨by rfl, ?_⟩) (by assumption) ?_
    rotate_left
    · (intro w' hSw; (try dsimp only at hSw); go_simp; with_reducible rfl)
    try simp only [List.getElem_toArray, List.getElem_cons_zero, List.getElem_cons_succ, Act.put, List.setIfInBounds_toArray, List.set_cons_zero, List.set_cons_succ]
    refine wpAnyH_take (i := 4) (v := ?_) rfl (by kernel_rfl) (by kernel_rfl) (by kernel_rfl) (fun _ _ _ h => h) (Or.inl ⟨by rfl, ?_⟩) (by assumption) ?_
    rotate_left
    · (intro w' hSw; (try dsimp only at hSw); go_simp; with_reducible rfl)
    try simp only [List.getElem_toArray, List.getElem_cons_zero, List.getElem_cons_succ, Act.put, List.setIfInBounds_toArray, List.set_cons_zero, List.set_cons_succ]
    refine wpAnyH_take (i := 5) (v := ?_) rfl (by kernel_rfl) (by kernel_rfl) (by kernel_rfl) (fun _ _ _ h => h) (Or.inl ⟨by rfl, ?_⟩) (by assumption) ?_
    rotate_left
    · (intro w' hSw; (try dsimp only at hSw); go_simp; with_reducible rfl)
    try simp only [List.getElem_toArray, List.getElem_cons_zero, List.getElem_cons_succ, Act.put, List.setIfInBounds_toArray, List.set_cons_zero, List.set_cons_succ]
    refine wpAnyH_take (i := 6) (v := ?_) rfl (by kernel_rfl) (by kernel_rfl) (by kernel_rfl) (fun _ _ _ h => h) (Or.inl ⟨by rfl, ?_⟩) (by assumption) ?_
    rotate_left
    · (intro w' hSw; (try dsimp only at hSw); go_simp; with_reducible rfl)
    try simp only [List.getElem_toArray, List.getElem_cons_zero, List.getElem_cons_succ, Act.put, List.setIfInBounds_toArray, List.set_cons_zero, List.set_cons_succ]
    refine wpAnyH_take (i := 7) (v := ?_) rfl (by kernel_rfl) (by kernel_rfl) (by kernel_rfl) (fun _ _ _ h => h) (Or.inl ⟨by rfl, ?_⟩) (by assumption) ?_
    rotate_left
    · (intro w' hSw; (try dsimp only at hSw); go_simp; with_reducible rfl)
    try simp only [List.getElem_toArray, List.getElem_cons_zero, List.getElem_cons_succ, Act.put, List.setIfInBounds_toArray, List.set_cons_zero, List.set_cons_succ]
    refine wpAnyH_take (i := 8) (v := ?_) rfl (by kernel_rfl) (by kernel_rfl) (by kernel_rfl) (fun _ _ _ h => h) (Or.inl ⟨by rfl, ?_⟩) (by assumption) ?_
    rotate_left
    · (intro w' hSw; (try dsimp only at hSw); go_simp; with_reducible rfl)
    try simp only [List.getElem_toArray, List.getElem_cons_zero, List.getElem_cons_succ, Act.put, List.setIfInBounds_toArray, List.set_cons_zero, List.set_cons_succ]
    refine wpAnyH_take (i := 9) (v := ?_) rfl (by kernel_rfl) (by kernel_rfl) (by kernel_rfl) (fun _ _ _ h => h) (Or.inl ⟨by rfl, ?_⟩) (by assumption) ?_
    rotate_left
    · (intro w' hSw; (try dsimp only at hSw); go_simp; with_reducible rfl)
    try simp only [List.getElem_toArray, List.getElem_cons_zero, List.getElem_cons_succ, Act.put, List.setIfInBounds_toArray, List.set_cons_zero, List.set_cons_succ]
    refine wpAnyH_take (i := 11) (v := ?_) rfl (by kernel_rfl) (by kernel_rfl) (by kernel_rfl) (fun _ _ _ h => h) (Or.inl ⟨by rfl, ?_⟩) (by assumption) ?_
    rotate_left
    · (intro w' hSw; (try dsimp only at hSw); go_simp; with_reducible rfl)
    try simp only [List.getElem_toArray, List.getElem_cons_zero, List.getElem_cons_succ, Act.put, List.setIfInBounds_toArray, List.set_cons_zero, List.set_cons_succ]
    refine wpAnyH_take (i := 12) (v := ?_) rfl (by kernel_rfl) (by kernel_rfl) (by kernel_rfl) (fun _ _ _ h => h) (Or.inl ⟨by rfl, ?_⟩) (by assumption) ?_
    rotate_left
    · (intro w' hSw; (try dsimp only at hSw); go_simp; with_reducible rfl)
    try simp only [List.getElem_toArray, List.getElem_cons_zero, List.getElem_cons_succ, Act.put, List.setIfInBounds_toArray, List.set_cons_zero, List.set_cons_succ]
    refine wpAnyH_take (i := 13) (v := ?_) rfl (by kernel_rfl) (by kernel_rfl) (by kernel_rfl) (fun _ _ _ h => h) (Or.inl ⟨by rfl, ?_⟩) (by assumption) ?_
    rotate_left
    · (intro w' hSw; (try dsimp only at hSw); go_simp; with_reducible rfl)
    try simp only [List.getElem_toArray, List.getElem_cons_zero, List.getElem_cons_succ, Act.put, List.setIfInBounds_toArray, List.set_cons_zero, List.set_cons_succ]
    refine wpAnyH_take (i := 14) (v := ?_) rfl (by kernel_rfl) (by kernel_rfl) (by kernel_rfl) (fun _ _ _ h => h) (Or.inl ⟨by rfl, ?_⟩) (by assumption) ?_
    rotate_left
    · (intro w' hSw; (try dsimp only at hSw); go_simp; with_reducible rfl)
    try simp only [List.getElem_toArray, List.getElem_cons_zero, List.getElem_cons_succ, Act.put, List.setIfInBounds_toArray, List.set_cons_zero, List.set_cons_succ]
    refine wpAnyH_ready (rs := [10, 15]) (by kernel_rfl) (by simp) ?_
    refine AllReadyH.cons rfl (fun K hK => ?_) (AllReadyH.cons rfl (fun K hK => ?_) AllReadyH.nil)
    · simp only [List.getElem_toArray, List.getElem_cons_zero, List.getElem_cons_succ]
      go_simp
      refine hK.out _ _ (by go_keep) (fun hHeld => ?_)
      clear hK K
      try simp only [List.getElem_toArray, List.getElem_cons_zero, List.getElem_cons_succ, Act.put, List.setIfInBounds_toArray, List.set_cons_zero, List.set_cons_succ]
      refine wpAnyH_ready (rs := [15]) (by kernel_rfl) (by simp) ?_
      refine AllReadyH.cons rfl (fun K hK => ?_) AllReadyH.nil
      simp only [List.getElem_toArray, List.getElem_cons_zero, List.getElem_cons_succ]
      go_simp
      refine hK.out _ _ (by go_keep) (fun hHeld => ?_)
      clear hK K
      try simp only [List.getElem_toArray, List.getElem_cons_zero, List.getElem_cons_succ, Act.put, List.setIfInBounds_toArray, List.set_cons_zero, List.set_cons_succ]
      refine wpAnyH_ready (rs := [16]) (by kernel_rfl) (by simp) ?_
      refine AllReadyH.cons rfl (fun K hK => ?_) AllReadyH.nil
      refine step_append_lies _ (by rfl) _ _ _ (by rfl) B 51 i0 _ 2 8 Tryd.underlying132 hi hz0 hz1 hz2 rfl (by decide) (.slice none 0 0) 0 [] (by rfl) HA.out ⟨W.heap.size, 0, none⟩ 1 1 [.int .u32 src, .int .u32 n] (by rfl) (by rfl) HNW.out (by simp [Value.oneCell']) (by decide) (by unfold maxLen; omega) (by omega) (by have := HBW.out; simp; omega) (W.heap.size + 1) (by simp) ?_
      intro g cap w2 hown2 hgrow hat2 hlt2
      have hb2 : Below W.heap.size W w2 := Below.grown ((Below.refl _ _).alloc (Nat.le_refl _) _).drew hgrow (by simp) (fun k e => by cases e)
      have p2' : RowAt w2 p cs 184 := HPR.out.below hb2 HPR.out.lt
      have m2' : RowAt w2 M ms 198 := HMR.out.below hb2 HMR.out.lt
      have g2 := m2'.frozen 5
      have g3 := m2'.cellv HM5.out
      have HBW2 := Lib.hid hb2
      clear hown2 hat2 hgrow hb2
      refine hK.out _ _ ⟨p2'.cellv HPC.out.c187, p2'.cellv HPC.out.c298, p2'.cellv HPC.out.c299⟩ (fun hHeld => ?_)
      clear hK K
      try simp only [List.getElem_toArray, List.getElem_cons_zero, List.getElem_cons_succ, Act.put, List.setIfInBounds_toArray, List.set_cons_zero, List.set_cons_succ]
      refine wpAnyH_take (i := 17) (v := ?_) rfl (by kernel_rfl) (by kernel_rfl) (by kernel_rfl) (fun _ _ _ h => h) (Or.inl ⟨by rfl, ?_⟩) (by assumption) ?_
      rotate_left
      · (intro w' hSw; (try dsimp only at hSw); go_simp; with_reducible rfl)
      try simp only [List.getElem_toArray, List.getElem_cons_zero, List.getElem_cons_succ, Act.put, List.setIfInBounds_toArray, List.set_cons_zero, List.set_cons_succ]
      refine wpAnyH_take (i := 18) (v := ?_) rfl (by kernel_rfl) (by kernel_rfl) (by kernel_rfl) (fun _ _ _ h => h) (Or.inl ⟨by rfl, ?_⟩) (by assumption) ?_
      rotate_left
      · (intro w' hSw; (try dsimp only at hSw); go_simp; with_reducible rfl)
      try simp only [List.getElem_toArray, List.getElem_cons_zero, List.getElem_cons_succ, Act.put, List.setIfInBounds_toArray, List.set_cons_zero, List.set_cons_succ]
      refine wpAnyH_ready (rs := [19]) (by kernel_rfl) (by simp) ?_
      refine AllReadyH.cons rfl (fun K hK => ?_) AllReadyH.nil
      simp only [List.getElem_toArray, List.getElem_cons_zero, List.getElem_cons_succ]
      go_simp
      refine hK.out _ _ ⟨(store_far hnm _ _).trans (p2'.cellv HPC.out.c187), (store_far hnm _ _).trans (p2'.cellv HPC.out.c298), (store_far hnm _ _).trans (p2'.cellv HPC.out.c299)⟩ (fun hHeld => ?_)
      clear hK K
      try simp only [List.getElem_toArray, List.getElem_cons_zero, List.getElem_cons_succ, Act.put, List.setIfInBounds_toArray, List.set_cons_zero, List.set_cons_succ]
      refine wpAnyH_done (by kernel_rfl) ?_ _
      have HS2 : Hid (StG (w2.setCell ⟨M, 5, none⟩ (.slice (some ⟨g, 0, none⟩) 1 cap)) B p src un mode fmt n ts 0 src n (.slice (some ⟨g, 0, none⟩) 1 cap)) := by
        refine ⟨cs, M, _, S, c, ds, vt, p2'.set_other hnm _ _, HPC.out, m2'.set 5 _, set_eq (Array.getElem?_eq_some_iff.1 HM5.out).1, (HRS.out.below HBW2.out HRS.out.lt).set_other (HRS.out.ne HMR.out (by decide)) _ _, HD.out, fun e => ?_, bp, bm, bs⟩
        obtain ⟨U, uc, us, x, h1, h2, h3, h4⟩ := HU.out e
        exact ⟨U, uc, us, x, h1, (h2.below HBW2.out h2.lt).set_other (h2.ne HMR.out (by decide)) _ _, h3, h4⟩
      have V32 : Hid (RowAt (w2.setCell ⟨M, 5, none⟩ (.slice (some ⟨g, 0, none⟩) 1 cap)) w.heap.size #[.int .i32 loc] 36) := (V31.out.below HBW2.out V31.out.lt).set_other (V31.out.ne HMR.out (by decide)) _ _
      have V42 : Hid (RowAt (w2.setCell ⟨M, 5, none⟩ (.slice (some ⟨g, 0, none⟩) 1 cap)) (w.heap.size + 1) #[.nilIface, .int .i32 0] 38) := (V41.out.below HBW2.out V41.out.lt).set_other (V41.out.ne HMR.out (by decide)) _ _
      have HBL : Hid (Below B w (w2.setCell ⟨M, 5, none⟩ (.slice (some ⟨g, 0, none⟩) 1 cap))) := (HBB.out.trans (HBW2.out.mono HBW.out)).setCell bm _
      have p298 := (p2'.set_other hnm 5 (.slice (some ⟨g, 0, none⟩) 1 cap)).cellv HPC.out.c298
      have p299 := (p2'.set_other hnm 5 (.slice (some ⟨g, 0, none⟩) 1 cap)).cellv HPC.out.c299
      have yp := (p2'.set_other hnm 5 (.slice (some ⟨g, 0, none⟩) 1 cap)).lt
      generalize hW2 : w2.setCell ⟨M, 5, none⟩ (.slice (some ⟨g, 0, none⟩) 1 cap) = W2 at HS2 V32 V42 HBL p298 p299 yp hHeld ⊢
      clear hW2 hHeld c187 c298 c299 c5d f5 HA HNW HPR HMR HM5 HPC HRS HD HU HBW HBB V31 V41 p2' m2' g2 g3 HBW2
      go_wp2_with fail
      refine (rec36 B p src un mode fmt src n n ts 0 (.slice (some ⟨g, 0, none⟩) 1 cap) W2 hn (by omega) HS2.out).mono ?_
      rintro e w5 ⟨rfl, hG5, hb5, hk5⟩
      have HG5 := Lib.hid hG5
      have HB5 := Lib.hid hb5
      have V35 := hk5 _ _ _ V32.out (.inl rfl)
      have V45 := hk5 _ _ _ V42.out (.inr (.inl rfl))
      obtain ⟨cs5, M5, ms5, S5, c5, ds5, vt5, rp5, pc5, _⟩ := id hG5
      have k0 := V35.cellv (j := 0) (v := .int .i32 loc) rfl
      have r0 := V45.cellv (j := 0) (v := .nilIface) rfl
      have r1 := V45.cellv (j := 1) (v := .int .i32 0) rfl
      have fr := V45.frozen
      have s298 := rp5.cellv pc5.c298
      have s299 := rp5.cellv pc5.c299
      have y3 := V35.lt
      have y4 := V45.lt
      have yp := rp5.lt
      have HV4 := Lib.hid V45
      clear hG5 hb5 hk5 V35 V45 rp5 pc5 V32 V42
      go_wp2_with fail
      go_region
      go_wp2_with fail
      have q : RowAt (World.alloc ((w5.setCell ⟨w.heap.size + 1, 0, none⟩ (.iface 203 (.pointer (some ⟨w5.heap.size, 0, none⟩)))).setCell ⟨w.heap.size + 1, 1, none⟩ (.int .i32 loc)) (.cells #[.int .u32 src, .int .u32 n, .bool false, .bool false, .bool false] 205)).drew (w.heap.size + 1) _ 38 := ((HV4.out.set 0 (.iface 203 (.pointer (some ⟨w5.heap.size, 0, none⟩)))).set 1 (.int .i32 loc)).alloc _
      have q0 := q.cellv (j := 0) (v := (.iface 203 (.pointer (some ⟨w5.heap.size, 0, none⟩)))) rfl
      have q1 := q.cellv (j := 1) (v := .int .i32 loc) rfl
      refine bodyPost_ret (v := .tuple #[.agg #[(.iface 203 (.pointer (some ⟨w5.heap.size, 0, none⟩))), .int .i32 loc], .bool true]) (by simp [results, Tryd.results27, go_sem, q0, q1]) rfl ?_
      exact ⟨w5.heap.size, _, rfl, (show RowAt (World.alloc ((w5.setCell ⟨w.heap.size + 1, 0, none⟩ (.iface 203 (.pointer (some ⟨w5.heap.size, 0, none⟩)))).setCell ⟨w.heap.size + 1, 1, none⟩ (.int .i32 loc)) (.cells #[.int .u32 src, .int .u32 n, .bool false, .bool false, .bool false] 205)) w5.heap.size #[.int .u32 src, .int .u32 n, .bool false, .bool false, .bool false] 205 from RowAt.newAt (by simp)), rfl, rfl, ⟨_, _, StG.below ((HG5.out.kept38 HV4.out).kept38 (HV4.out.set 0 _)) ((Below.refl _ _).alloc (Nat.le_refl _) _).drew⟩,
        ((((HBL.out.trans HB5.out).setCell (Nat.le_succ_of_le hB) _).setCell (Nat.le_succ_of_le hB) _).alloc (by simp; omega) _).drew⟩
    · simp only [List.getElem_toArray, List.getElem_cons_zero, List.getElem_cons_succ]
      go_simp
      refine hK.out _ _ (by go_keep) (fun hHeld => ?_)
      clear hK K
      try simp only [List.getElem_toArray, List.getElem_cons_zero, List.getElem_cons_succ, Act.put, List.setIfInBounds_toArray, List.set_cons_zero, List.set_cons_succ]
      refine wpAnyH_ready (rs := [10]) (by kernel_rfl) (by simp) ?_
      refine AllReadyH.cons rfl (fun K hK => ?_) AllReadyH.nil
      simp only [List.getElem_toArray, List.getElem_cons_zero, List.getElem_cons_succ]
      go_simp
      refine hK.out _ _ (by go_keep) (fun hHeld => ?_)
      clear hK K
      try simp only [List.getElem_toArray, List.getElem_cons_zero, List.getElem_cons_succ, Act.put, List.setIfInBounds_toArray, List.set_cons_zero, List.set_cons_succ]
      refine wpAnyH_ready (rs := [16]) (by kernel_rfl) (by simp) ?_
      refine AllReadyH.cons rfl (fun K hK => ?_) AllReadyH.nil
      refine step_append_lies _ (by rfl) _ _ _ (by rfl) B 51 i0 _ 2 8 Tryd.underlying132 hi hz0 hz1 hz2 rfl (by decide) (.slice none 0 0) 0 [] (by rfl) HA.out ⟨W.heap.size, 0, none⟩ 1 1 [.int .u32 src, .int .u32 n] (by rfl) (by rfl) HNW.out (by simp [Value.oneCell']) (by decide) (by unfold maxLen; omega) (by omega) (by have := HBW.out; simp; omega) (W.heap.size + 1) (by simp) ?_
      intro g cap w2 hown2 hgrow hat2 hlt2
      have hb2 : Below W.heap.size W w2 := Below.grown ((Below.refl _ _).alloc (Nat.le_refl _) _).drew hgrow (by simp) (fun k e => by cases e)
      have p2' : RowAt w2 p cs 184 := HPR.out.below hb2 HPR.out.lt
      have m2' : RowAt w2 M ms 198 := HMR.out.below hb2 HMR.out.lt
      have g2 := m2'.frozen 5
      have g3 := m2'.cellv HM5.out
      have HBW2 := Lib.hid hb2
      clear hown2 hat2 hgrow hb2
      refine hK.out _ _ ⟨p2'.cellv HPC.out.c187, p2'.cellv HPC.out.c298, p2'.cellv HPC.out.c299⟩ (fun hHeld => ?_)
      clear hK K
      try simp only [List.getElem_toArray, List.getElem_cons_zero, List.getElem_cons_succ, Act.put, List.setIfInBounds_toArray, List.set_cons_zero, List.set_cons_succ]
      refine wpAnyH_take (i := 17) (v := ?_) rfl (by kernel_rfl) (by kernel_rfl) (by kernel_rfl) (fun _ _ _ h => h) (Or.inl ⟨by rfl, ?_⟩) (by assumption) ?_
      rotate_left
      · (intro w' hSw; (try dsimp only at hSw); go_simp; with_reducible rfl)
      try simp only [List.getElem_toArray, List.getElem_cons_zero, List.getElem_cons_succ, Act.put, List.setIfInBounds_toArray, List.set_cons_zero, List.set_cons_succ]
      refine wpAnyH_take (i := 18) (v := ?_) rfl (by kernel_rfl) (by kernel_rfl) (by kernel_rfl) (fun _ _ _ h => h) (Or.inl ⟨by rfl, ?_⟩) (by assumption) ?_
      rotate_left
      · (intro w' hSw; (try dsimp only at hSw); go_simp; with_reducible rfl)
      try simp only [List.getElem_toArray, List.getElem_cons_zero, List.getElem_cons_succ, Act.put, List.setIfInBounds_toArray, List.set_cons_zero, List.set_cons_succ]
      refine wpAnyH_ready (rs := [19]) (by kernel_rfl) (by simp) ?_
      refine AllReadyH.cons rfl (fun K hK => ?_) AllReadyH.nil
      simp only [List.getElem_toArray, List.getElem_cons_zero, List.getElem_cons_succ]
      go_simp
      refine hK.out _ _ ⟨(store_far hnm _ _).trans (p2'.cellv HPC.out.c187), (store_far hnm _ _).trans (p2'.cellv HPC.out.c298), (store_far hnm _ _).trans (p2'.cellv HPC.out.c299)⟩ (fun hHeld => ?_)
      clear hK K
      try simp only [List.getElem_toArray, List.getElem_cons_zero, List.getElem_cons_succ, Act.put, List.setIfInBounds_toArray, List.set_cons_zero, List.set_cons_succ]
      refine wpAnyH_done (by kernel_rfl) ?_ _
      have HS2 : Hid (StG (w2.setCell ⟨M, 5, none⟩ (.slice (some ⟨g, 0, none⟩) 1 cap)) B p src un mode fmt n ts 0 src n (.slice (some ⟨g, 0, none⟩) 1 cap)) := by
        refine ⟨cs, M, _, S, c, ds, vt, p2'.set_other hnm _ _, HPC.out, m2'.set 5 _, set_eq (Array.getElem?_eq_some_iff.1 HM5.out).1, (HRS.out.below HBW2.out HRS.out.lt).set_other (HRS.out.ne HMR.out (by decide)) _ _, HD.out, fun e => ?_, bp, bm, bs⟩
        obtain ⟨U, uc, us, x, h1, h2, h3, h4⟩ := HU.out e
        exact ⟨U, uc, us, x, h1, (h2.below HBW2.out h2.lt).set_other (h2.ne HMR.out (by decide)) _ _, h3, h4⟩
      have V32 : Hid (RowAt (w2.setCell ⟨M, 5, none⟩ (.slice (some ⟨g, 0, none⟩) 1 cap)) w.heap.size #[.int .i32 loc] 36) := (V31.out.below HBW2.out V31.out.lt).set_other (V31.out.ne HMR.out (by decide)) _ _
      have V42 : Hid (RowAt (w2.setCell ⟨M, 5, none⟩ (.slice (some ⟨g, 0, none⟩) 1 cap)) (w.heap.size + 1) #[.nilIface, .int .i32 0] 38) := (V41.out.below HBW2.out V41.out.lt).set_other (V41.out.ne HMR.out (by decide)) _ _
      have HBL : Hid (Below B w (w2.setCell ⟨M, 5, none⟩ (.slice (some ⟨g, 0, none⟩) 1 cap))) := (HBB.out.trans (HBW2.out.mono HBW.out)).setCell bm _
      have p298 := (p2'.set_other hnm 5 (.slice (some ⟨g, 0, none⟩) 1 cap)).cellv HPC.out.c298
      have p299 := (p2'.set_other hnm 5 (.slice (some ⟨g, 0, none⟩) 1 cap)).cellv HPC.out.c299
      have yp := (p2'.set_other hnm 5 (.slice (some ⟨g, 0, none⟩) 1 cap)).lt
      generalize hW2 : w2.setCell ⟨M, 5, none⟩ (.slice (some ⟨g, 0, none⟩) 1 cap) = W2 at HS2 V32 V42 HBL p298 p299 yp hHeld ⊢
      clear hW2 hHeld c187 c298 c299 c5d f5 HA HNW HPR HMR HM5 HPC HRS HD HU HBW HBB V31 V41 p2' m2' g2 g3 HBW2
      go_wp2_with fail
      refine (rec36 B p src un mode fmt src n n ts 0 (.slice (some ⟨g, 0, none⟩) 1 cap) W2 hn (by omega) HS2.out).mono ?_
      rintro e w5 ⟨rfl, hG5, hb5, hk5⟩
      have HG5 := Lib.hid hG5
      have HB5 := Lib.hid hb5
      have V35 := hk5 _ _ _ V32.out (.inl rfl)
      have V45 := hk5 _ _ _ V42.out (.inr (.inl rfl))
      obtain ⟨cs5, M5, ms5, S5, c5, ds5, vt5, rp5, pc5, _⟩ := id hG5
      have k0 := V35.cellv (j := 0) (v := .int .i32 loc) rfl
      have r0 := V45.cellv (j := 0) (v := .nilIface) rfl
      have r1 := V45.cellv (j := 1) (v := .int .i32 0) rfl
      have fr := V45.frozen
      have s298 := rp5.cellv pc5.c298
      have s299 := rp5.cellv pc5.c299
      have y3 := V35.lt
      have y4 := V45.lt
      have yp := rp5.lt
      have HV4 := Lib.hid V45
      clear hG5 hb5 hk5 V35 V45 rp5 pc5 V32 V42
      go_wp2_with fail
      go_region
      go_wp2_with fail
      have q : RowAt (World.alloc ((w5.setCell ⟨w.heap.size + 1, 0, none⟩ (.iface 203 (.pointer (some ⟨w5.heap.size, 0, none⟩)))).setCell ⟨w.heap.size + 1, 1, none⟩ (.int .i32 loc)) (.cells #[.int .u32 src, .int .u32 n, .bool false, .bool false, .bool false] 205)).drew (w.heap.size + 1) _ 38 := ((HV4.out.set 0 (.iface 203 (.pointer (some ⟨w5.heap.size, 0, none⟩)))).set 1 (.int .i32 loc)).alloc _
      have q0 := q.cellv (j := 0) (v := (.iface 203 (.pointer (some ⟨w5.heap.size, 0, none⟩)))) rfl
      have q1 := q.cellv (j := 1) (v := .int .i32 loc) rfl
      refine bodyPost_ret (v := .tuple #[.agg #[(.iface 203 (.pointer (some ⟨w5.heap.size, 0, none⟩))), .int .i32 loc], .bool true]) (by simp [results, Tryd.results27, go_sem, q0, q1]) rfl ?_
      exact ⟨w5.heap.size, _, rfl, (show RowAt (World.alloc ((w5.setCell ⟨w.heap.size + 1, 0, none⟩ (.iface 203 (.pointer (some ⟨w5.heap.size, 0, none⟩)))).setCell ⟨w.heap.size + 1, 1, none⟩ (.int .i32 loc)) (.cells #[.int .u32 src, .int .u32 n, .bool false, .bool false, .bool false] 205)) w5.heap.size #[.int .u32 src, .int .u32 n, .bool false, .bool false, .bool false] 205 from RowAt.newAt (by simp)), rfl, rfl, ⟨_, _, StG.below ((HG5.out.kept38 HV4.out).kept38 (HV4.out.set 0 _)) ((Below.refl _ _).alloc (Nat.le_refl _) _).drew⟩,
        ((((HBL.out.trans HB5.out).setCell (Nat.le_succ_of_le hB) _).setCell (Nat.le_succ_of_le hB) _).alloc (by simp; omega) _).drew⟩


end Go.Proofs.YtfmfniddnlpkmaaDoor
