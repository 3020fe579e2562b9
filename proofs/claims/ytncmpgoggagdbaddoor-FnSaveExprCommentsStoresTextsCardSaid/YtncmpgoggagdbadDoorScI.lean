import Derived.Test.YtncmpgoggagdbadDoorKit
import Derived.Test.YtncmpgoggagdbadDoorScH
namespace Go.Proofs.YtncmpgoggagdbadDoor
open Go.ChangeShapes Go.WideShapes Go.ChangeAt Go.RowKit
set_option linter.unusedVariables false
set_option maxRecDepth 100000
set_option maxHeartbeats 2000000

def vS (b : Nat) : Value := .slice (some ⟨b, 0, none⟩) 1 1
/-- The map as it is made: kept entry, old entry or none. -/
structure MS (w1 u : World) (F : Value → Option Value) (cnt : Nat) (old : Bool) : Prop where
  mp : MapIs u (w1.heap.size + 1 + 1) IsLoc F cnt
  rK : RowAt u (w1.heap.size + 1 + 1 + 1) #[.string sK] 9
  f7 : F k7 = some (vS (w1.heap.size + 1 + 1 + 1))
  f0 : old = false → F k0 = none ∧ cnt = 1
  g0 : old = true → ∃ O, F k0 = some (vS O) ∧ RowAt u O #[.string sO] 9 ∧ cnt = 2
  r14 : RowAt u w1.heap.size #[.int .i32 0] 28
  r15 : RowAt u (w1.heap.size + 1) #[.int .i32 7] 28
  bel : Below w1.heap.size w1 u
theorem MS.kept {w1 u v : World} {F : Value → Option Value} {cnt : Nat} {old : Bool} (h : MS w1 u F cnt old) (hb : Below u.heap.size u v) : MS w1 v F cnt old := by
  refine ⟨h.mp.below hb h.mp.lt, h.rK.below hb h.rK.lt, h.f7, h.f0, fun e => ?_, h.r14.below hb h.r14.lt, h.r15.below hb h.r15.lt, h.bel.trans (hb.mono h.bel.size)⟩
  obtain ⟨O, e1, e2, e3⟩ := h.g0 e
  exact ⟨O, e1, e2.below hb e2.lt, e3⟩
theorem ms_no {w1 u : World} (h5 : MapIs u (w1.heap.size + 1 + 1) IsLoc (putF (fun _ => none) k7 (.slice (some ⟨w1.heap.size + 1 + 1 + 1, 0, none⟩) 1 1)) 1) (rK : RowAt u (w1.heap.size + 1 + 1 + 1) #[.string sK] 9) (r14 : RowAt u w1.heap.size #[.int .i32 0] 28)
    (r15 : RowAt u (w1.heap.size + 1) #[.int .i32 7] 28) (bel : Below w1.heap.size w1 u) : ∃ F cnt, MS w1 u F cnt false :=
  ⟨_, 1, ⟨h5, rK, putF_same _ _ _, fun _ => ⟨putF_other _ _ kne.symm, rfl⟩, (fun e => by cases e), r14, r15, bel⟩⟩
theorem ms_old {w1 u : World} {O : Nat} (h5 : MapIs u (w1.heap.size + 1 + 1) IsLoc (putF (putF (fun _ => none) k7 (.slice (some ⟨w1.heap.size + 1 + 1 + 1, 0, none⟩) 1 1)) k0 (.slice (some ⟨O, 0, none⟩) 1 1)) 2) (rK : RowAt u (w1.heap.size + 1 + 1 + 1) #[.string sK] 9) (rO : RowAt u O #[.string sO] 9)
    (r14 : RowAt u w1.heap.size #[.int .i32 0] 28) (r15 : RowAt u (w1.heap.size + 1) #[.int .i32 7] 28) (bel : Below w1.heap.size w1 u) : ∃ F cnt, MS w1 u F cnt true :=
  ⟨_, 2, ⟨h5, rK, (putF_other _ _ kne).trans (putF_same _ _ _), (fun e => by cases e), fun _ => ⟨O, putF_same _ _ _, rO, rfl⟩, r14, r15, bel⟩⟩
theorem run_lk {P : Program} {w : World} {b n : Nat} {F : Value → Option Value} (h : MapIs w b IsLoc F n) (K : KeysLike P 28 IsLoc) (ht : P.underlying 29 = some (.map 28 30)) (hz : (zeroValue 30).run P w = .ok (.slice none 0 0) w) (a : Int) (r : Option Value) (hr : F (.agg #[.int .i32 a]) = r) :
    (Instr.lookup 29 (.map (some b)) (.agg #[.int .i32 a]) true).run P w = .ok (lookRes true r (.slice none 0 0)) w := by
  subst hr
  exact h.look K ht hz ⟨_, rfl⟩ true
theorem newAt {W : World} {b : Nat} {cs : Array Value} {t : TypeId} (hb : b = W.heap.size) : RowAt (W.alloc (.cells cs t)) b cs t := by
  subst hb
  exact RowAt.new _ _ _
theorem z30 (w : World) : (zeroValue 30).run Tryd.prog w = .ok (.slice none 0 0) w := by kernel_rfl

set_option maxHeartbeats 1000000 in
theorem mainZ1 (S : ByteArray) (a1 a2 : Option Addr) (n1 c1 n2 c2 : Nat) (z1 z2 : Nat → Int) (w : World) (hS : S.size ≤ 65536) (h1 : n1 ≤ 4096) (h2 : n2 ≤ 4096) (hn : n1 = 0) (i1 : I32s w a1 n1 z1) (i2 : I32s w a2 n2 z2) :
    Calls Tryd.prog 3 #[.string S, .slice a1 n1 c1, .slice a2 n2 c2, .bool true, .bool false] w (Po w) := by
  have H := Lib.hid (zz4 S a1 a2 n1 c1 n2 c2 true false w (by omega) (by omega) (by omega))
  have HR := Lib.hid (ranges5 S a1 a2 n1 c1 n2 c2 z1 z2 w hS h1 i1 i2)
  have HN := Lib.hid hn
  clear hn
  have hmm := @run_makeMap Tryd.prog
  have heq := fun (W : World) (r : Option Nat) => run_eql_map_nil W 29 28 30 r Tryd.underlying29
  clear i1 i2
  go_enter Tryd.func3, Tryd.ntmps3
  go_wp2_with fail
  refine H.out.mono ?_
  clear H
  rintro e w' ⟨q, rfl, hq, rfl⟩
  cases q
  · as_aux_lemma =>
    clear hq HR
    go_wp2_with fail
    go_ret
    exact ⟨rfl, Below.refl _ _⟩
  · as_aux_lemma =>
    clear hq
    go_wp2_with fail
    refine HR.out.mono ?_
    clear HR
    rintro e w1 ⟨hb, ⟨v, rfl⟩ | ⟨s, l, rfl, hu⟩⟩
    · as_aux_lemma =>
      have HB := Lib.hid hb
      clear hb
      go_wp2_with fail
      go_ret
      exact ⟨rfl, HB.out⟩
    · as_aux_lemma =>
      have HB := Lib.hid hb
      have HU := Lib.hid hu
      have zw : w.heap.size < w1.heap.size := by obtain ⟨g, hr, _⟩ := hu.row; exact hr.lt
      clear hb hu
      go_wp2_with (at_mapUpdate; refine wpList_putN rfl (.tmp 62) (.tmp 63) (.tmp 64) 29 rfl 28 30 keyL Tryd.underlying29 (w1.heap.size + 1 + 1) 0 1 (fun _ => none) rfl (MapIs.alloc (MapIs.newAt IsLoc (by simp)) _) k7 _ rfl rfl ⟨_, rfl⟩ rfl ?_)
      intro w5 h5 t5
      have z5 : w1.heap.size + 4 ≤ w5.heap.size := by have := t5.size; simp at this; omega
      have q4 : RowAt w5 w1.heap.size #[.int .i32 0] 28 := t5.row ((((RowAt.new _ _ _).alloc _).alloc _).alloc _) (by omega)
      have q5 : RowAt w5 (w1.heap.size + 1) #[.int .i32 7] 28 := t5.row (((newAt (by simp)).alloc _).alloc _) (by omega)
      have qK : RowAt w5 (w1.heap.size + 1 + 1 + 1) #[.string sK] 9 := t5.row (newAt (by simp)) (by omega)
      have b5 : Below w1.heap.size w1 w5 := (((((Below.refl _ _).alloc (Nat.le_refl _) _).alloc (by simp) _).alloc (by simp; omega) _).alloc (by simp; omega) _).trans (t5.below (by omega))
      have hF : ∃ F cnt, MS w1 w5 F cnt false := ms_no h5 qK q4 q5 b5
      clear h5 t5 q4 q5 qK b5 hmm
      obtain ⟨F, cnt, hms⟩ := hF
      have HMS := Lib.hid hms
      have B5 := Lib.hid (HB.out.trans (hms.bel.mono HB.out.size))
      clear hms
      go_wp2_with fail
      refine (new6 S (some (w1.heap.size + 1 + 1)) _ n1 n1 _).mono ?_
      rintro e w3 ⟨p, rfl, hps, hb3, hpl⟩
      have HPS := Lib.hid hps
      have HM3 := Lib.hid (HMS.out.kept hb3)
      have HU3 := Lib.hid ((HU.out.below HMS.out.bel).below hb3)
      have B3 := Lib.hid (B5.out.trans (hb3.mono B5.out.size))
      have zM := HMS.out.mp.lt
      clear hps hb3
      have zp := HPS.out.lt
      have zM3 := HM3.out.mp.lt
      go_wp2_with fail
      have hn := HN.out
      subst hn
      refine (call7N p _ (save9_zero p _ 0 _ S _ (HPS.out.alloc _))).mono ?_
      rintro e w4 ⟨rfl, hb4⟩
      have hx4 : Below w4.heap.size w4 (w4.alloc (.cells #[.int .i32 0] 28)) := (Below.refl _ _).alloc (Nat.le_refl _) _
      have HP4 := Lib.hid ((HPS.out.below hb4 HPS.out.lt).below hx4 (HPS.out.below hb4 HPS.out.lt).lt)
      have hM4 := (HM3.out.kept hb4).kept hx4
      have b4 := B3.out.trans (hb4.mono B3.out.size)
      have B4 := Lib.hid (b4.trans (hx4.mono b4.size))
      clear hb4 hx4 b4
      go_wp2_with fail
      generalize hW : w4.alloc (.cells #[.int .i32 0] 28) = W at HP4 hM4 B4 ⊢
      clear hW
      refine (expr8 p S _ _ _ HP4.out).mono ?_
      rintro e w7 ⟨rfl, rfl⟩
      have l7 := run_lk hM4.mp keyL Tryd.underlying29 (z30 W) 7 _ hM4.f7
      have cK := hM4.rK.cellv (j := 0) (v := .string ⟨#[107, 101, 101, 112]⟩) rfl
      have c14 := hM4.r14.cellv (j := 0) (v := .int .i32 0) rfl
      have c15 := hM4.r15.cellv (j := 0) (v := .int .i32 7) rfl
      obtain ⟨f0, rfl⟩ := hM4.f0 rfl
      have l0 := run_lk hM4.mp keyL Tryd.underlying29 (z30 W) 0 _ f0
      have hlen := hM4.mp.len (ty := 3) Tryd.underlying29
      simp only [lookRes, vS] at l7 l0
      clear hM4 f0
      go_wp2_with fail
      go_ret
      exact ⟨rfl, B4.out⟩

set_option maxHeartbeats 1000000 in
theorem mainZ2 (S : ByteArray) (a1 a2 : Option Addr) (n1 c1 n2 c2 : Nat) (z1 z2 : Nat → Int) (w : World) (hS : S.size ≤ 65536) (h1 : n1 ≤ 4096) (h2 : n2 ≤ 4096) (hn : n1 = 0) (i1 : I32s w a1 n1 z1) (i2 : I32s w a2 n2 z2) :
    Calls Tryd.prog 3 #[.string S, .slice a1 n1 c1, .slice a2 n2 c2, .bool true, .bool true] w (Po w) := by
  have H := Lib.hid (zz4 S a1 a2 n1 c1 n2 c2 true true w (by omega) (by omega) (by omega))
  have HR := Lib.hid (ranges5 S a1 a2 n1 c1 n2 c2 z1 z2 w hS h1 i1 i2)
  have HN := Lib.hid hn
  clear hn
  have hmm := @run_makeMap Tryd.prog
  have heq := fun (W : World) (r : Option Nat) => run_eql_map_nil W 29 28 30 r Tryd.underlying29
  clear i1 i2
  go_enter Tryd.func3, Tryd.ntmps3
  go_wp2_with fail
  refine H.out.mono ?_
  clear H
  rintro e w' ⟨q, rfl, hq, rfl⟩
  cases q
  · as_aux_lemma =>
    clear hq HR
    go_wp2_with fail
    go_ret
    exact ⟨rfl, Below.refl _ _⟩
  · as_aux_lemma =>
    clear hq
    go_wp2_with fail
    refine HR.out.mono ?_
    clear HR
    rintro e w1 ⟨hb, ⟨v, rfl⟩ | ⟨s, l, rfl, hu⟩⟩
    · as_aux_lemma =>
      have HB := Lib.hid hb
      clear hb
      go_wp2_with fail
      go_ret
      exact ⟨rfl, HB.out⟩
    · as_aux_lemma =>
      have HB := Lib.hid hb
      have HU := Lib.hid hu
      have zw : w.heap.size < w1.heap.size := by obtain ⟨g, hr, _⟩ := hu.row; exact hr.lt
      clear hb hu
      go_wp2_with (at_mapUpdate; refine wpList_putN rfl (.tmp 62) (.tmp 63) (.tmp 64) 29 rfl 28 30 keyL Tryd.underlying29 (w1.heap.size + 1 + 1) 0 1 (fun _ => none) rfl (MapIs.alloc (MapIs.newAt IsLoc (by simp)) _) k7 _ rfl rfl ⟨_, rfl⟩ rfl ?_)
      intro w5 h5 t5
      have z5 : w1.heap.size + 4 ≤ w5.heap.size := by have := t5.size; simp at this; omega
      have q4 : RowAt w5 w1.heap.size #[.int .i32 0] 28 := t5.row ((((RowAt.new _ _ _).alloc _).alloc _).alloc _) (by omega)
      have q5 : RowAt w5 (w1.heap.size + 1) #[.int .i32 7] 28 := t5.row (((newAt (by simp)).alloc _).alloc _) (by omega)
      have qK : RowAt w5 (w1.heap.size + 1 + 1 + 1) #[.string sK] 9 := t5.row (newAt (by simp)) (by omega)
      have b5 : Below w1.heap.size w1 w5 := (((((Below.refl _ _).alloc (Nat.le_refl _) _).alloc (by simp) _).alloc (by simp; omega) _).alloc (by simp; omega) _).trans (t5.below (by omega))
      have c4 := q4.cellv (j := 0) (v := .int .i32 0) rfl
      have z4 : w1.heap.size < w5.heap.size := by omega
      go_wp2_with (at_mapUpdate; refine wpList_putN rfl (.tmp 66) (.tmp 67) (.tmp 68) 29 rfl 28 30 keyL Tryd.underlying29 (w1.heap.size + 1 + 1) 1 2 (putF (fun _ => none) k7 (.slice (some ⟨w1.heap.size + 1 + 1 + 1, 0, none⟩) 1 1)) rfl (MapIs.alloc h5 _) k0 _ rfl rfl ⟨_, rfl⟩ (by rw [putF_other _ _ kne.symm]; rfl) ?_)
      intro w6 h6 t6
      have hF : ∃ F cnt, MS w1 w6 F cnt true := ms_old h6 (t6.row (qK.alloc _) (by omega)) (t6.row (newAt rfl) (by omega)) (t6.row (q4.alloc _) (by omega)) (t6.row (q5.alloc _) (by omega)) ((b5.alloc b5.size _).trans (t6.below (by omega)))
      clear h5 t5 q4 q5 qK b5 hmm h6 t6 c4 z4 z5
      obtain ⟨F, cnt, hms⟩ := hF
      have HMS := Lib.hid hms
      have B5 := Lib.hid (HB.out.trans (hms.bel.mono HB.out.size))
      clear hms
      go_wp2_with fail
      refine (new6 S (some (w1.heap.size + 1 + 1)) _ n1 n1 _).mono ?_
      rintro e w3 ⟨p, rfl, hps, hb3, hpl⟩
      have HPS := Lib.hid hps
      have HM3 := Lib.hid (HMS.out.kept hb3)
      have HU3 := Lib.hid ((HU.out.below HMS.out.bel).below hb3)
      have B3 := Lib.hid (B5.out.trans (hb3.mono B5.out.size))
      have zM := HMS.out.mp.lt
      clear hps hb3
      have zp := HPS.out.lt
      have zM3 := HM3.out.mp.lt
      go_wp2_with fail
      have hn := HN.out
      subst hn
      refine (call7N p _ (save9_zero p _ 0 _ S _ (HPS.out.alloc _))).mono ?_
      rintro e w4 ⟨rfl, hb4⟩
      have hx4 : Below w4.heap.size w4 (w4.alloc (.cells #[.int .i32 0] 28)) := (Below.refl _ _).alloc (Nat.le_refl _) _
      have HP4 := Lib.hid ((HPS.out.below hb4 HPS.out.lt).below hx4 (HPS.out.below hb4 HPS.out.lt).lt)
      have hM4 := (HM3.out.kept hb4).kept hx4
      have b4 := B3.out.trans (hb4.mono B3.out.size)
      have B4 := Lib.hid (b4.trans (hx4.mono b4.size))
      clear hb4 hx4 b4
      go_wp2_with fail
      generalize hW : w4.alloc (.cells #[.int .i32 0] 28) = W at HP4 hM4 B4 ⊢
      clear hW
      refine (expr8 p S _ _ _ HP4.out).mono ?_
      rintro e w7 ⟨rfl, rfl⟩
      have l7 := run_lk hM4.mp keyL Tryd.underlying29 (z30 W) 7 _ hM4.f7
      have cK := hM4.rK.cellv (j := 0) (v := .string ⟨#[107, 101, 101, 112]⟩) rfl
      have c14 := hM4.r14.cellv (j := 0) (v := .int .i32 0) rfl
      have c15 := hM4.r15.cellv (j := 0) (v := .int .i32 7) rfl
      obtain ⟨O, f0, rO, rfl⟩ := hM4.g0 rfl
      have l0 := run_lk hM4.mp keyL Tryd.underlying29 (z30 W) 0 _ f0
      have hlen := hM4.mp.len (ty := 3) Tryd.underlying29
      have cO := rO.cellv (j := 0) (v := .string ⟨#[111, 108, 100]⟩) rfl
      simp only [lookRes, vS] at l7 l0
      clear hM4 f0 rO
      go_wp2_with fail
      go_ret
      exact ⟨rfl, B4.out⟩


end Go.Proofs.YtncmpgoggagdbadDoor
