import Derived.Test.YtncmpgoggagdbadDoorKit
import Derived.Test.YtncmpgoggagdbadDoorScI
namespace Go.Proofs.YtncmpgoggagdbadDoor
open Go.ChangeShapes Go.WideShapes Go.ChangeAt Go.RowKit
set_option linter.unusedVariables false
set_option maxRecDepth 100000
set_option maxHeartbeats 2000000

set_option maxHeartbeats 1000000 in
theorem mainP1 (S : ByteArray) (a1 a2 : Option Addr) (n1 c1 n2 c2 : Nat) (z1 z2 : Nat → Int) (w : World) (hS : S.size ≤ 65536) (h1 : n1 ≤ 4096) (h2 : n2 ≤ 4096) (hn : 0 < n1) (i1 : I32s w a1 n1 z1) (i2 : I32s w a2 n2 z2) :
    Calls Tryd.prog 3 #[.string S, .slice a1 n1 c1, .slice a2 n2 c2, .bool true, .bool false] w (Po w) := by
  have H := Lib.hid (zz4 S a1 a2 n1 c1 n2 c2 true false w (by omega) (by omega) (by omega))
  have HR := Lib.hid (ranges5 S a1 a2 n1 c1 n2 c2 z1 z2 w hS h1 i1 i2)
  have HN := Lib.hid hn
  clear hn
  have hmm := @run_makeMap Tryd.prog
  have heq := fun (W : World) (r : Option Nat) => run_eql_map_nil W 29 28 30 r Tryd.underlying29
  clear i1 i2
  go_enter Tryd.func3, Tryd.ntmps3
  go_wp2_with fail
  refine H.out.mono ?_
  clear H
  rintro e w' ⟨q, rfl, hq, rfl⟩
  cases q
  · as_aux_lemma =>
    clear hq HR
    go_wp2_with fail
    go_ret
    exact ⟨rfl, Below.refl _ _⟩
  · as_aux_lemma =>
    clear hq
    go_wp2_with fail
    refine HR.out.mono ?_
    clear HR
    rintro e w1 ⟨hb, ⟨v, rfl⟩ | ⟨s, l, rfl, hu⟩⟩
    · as_aux_lemma =>
      have HB := Lib.hid hb
      clear hb
      go_wp2_with fail
      go_ret
      exact ⟨rfl, HB.out⟩
    · as_aux_lemma =>
      have HB := Lib.hid hb
      have HU := Lib.hid hu
      have zw : w.heap.size < w1.heap.size := by obtain ⟨g, hr, _⟩ := hu.row; exact hr.lt
      clear hb hu
      go_wp2_with (at_mapUpdate; refine wpList_putN rfl (.tmp 62) (.tmp 63) (.tmp 64) 29 rfl 28 30 keyL Tryd.underlying29 (w1.heap.size + 1 + 1) 0 1 (fun _ => none) rfl (MapIs.alloc (MapIs.newAt IsLoc (by simp)) _) k7 _ rfl rfl ⟨_, rfl⟩ rfl ?_)
      intro w5 h5 t5
      have z5 : w1.heap.size + 4 ≤ w5.heap.size := by have := t5.size; simp at this; omega
      have q4 : RowAt w5 w1.heap.size #[.int .i32 0] 28 := t5.row ((((RowAt.new _ _ _).alloc _).alloc _).alloc _) (by omega)
      have q5 : RowAt w5 (w1.heap.size + 1) #[.int .i32 7] 28 := t5.row (((newAt (by simp)).alloc _).alloc _) (by omega)
      have qK : RowAt w5 (w1.heap.size + 1 + 1 + 1) #[.string sK] 9 := t5.row (newAt (by simp)) (by omega)
      have b5 : Below w1.heap.size w1 w5 := (((((Below.refl _ _).alloc (Nat.le_refl _) _).alloc (by simp) _).alloc (by simp; omega) _).alloc (by simp; omega) _).trans (t5.below (by omega))
      have hF : ∃ F cnt, MS w1 w5 F cnt false := ms_no h5 qK q4 q5 b5
      clear h5 t5 q4 q5 qK b5 hmm
      obtain ⟨F, cnt, hms⟩ := hF
      have HMS := Lib.hid hms
      have B5 := Lib.hid (HB.out.trans (hms.bel.mono HB.out.size))
      clear hms
      go_wp2_with fail
      refine (new6 S (some (w1.heap.size + 1 + 1)) _ n1 n1 _).mono ?_
      rintro e w3 ⟨p, rfl, hps, hb3, hpl⟩
      have HPS := Lib.hid hps
      have HM3 := Lib.hid (HMS.out.kept hb3)
      have HU3 := Lib.hid ((HU.out.below HMS.out.bel).below hb3)
      have B3 := Lib.hid (B5.out.trans (hb3.mono B5.out.size))
      have zM := HMS.out.mp.lt
      clear hps hb3
      have zp := HPS.out.lt
      have zM3 := HM3.out.mp.lt
      go_wp2_with fail
      refine (call7Y p (w1.heap.size + 1 + 1) w.heap.size n1 cnt S s l F _ zp zM3 (save9 p (w1.heap.size + 1 + 1) w.heap.size n1 cnt S s l F _ hS h1 HN.out (HPS.out.alloc _) (HU3.out.below ((Below.refl _ _).alloc (Nat.le_refl _) _)) (HM3.out.mp.alloc _))).mono ?_
      rintro e w4 ⟨C, rfl, hmp, hC, hP, hFr⟩
      have hpp : ∀ j, j < w5.heap.size → j ≠ w1.heap.size + 1 + 1 → w4.heap[j]? = w3.heap[j]? := fun j hj hne => hFr.block j (by omega) (fun h => by omega)
      have rK4 : RowAt w4 (w1.heap.size + 1 + 1 + 1) #[.string sK] 9 := (hpp _ (by omega) (by omega)).trans HM3.out.rK
      have r144 : RowAt w4 w1.heap.size #[.int .i32 0] 28 := (hpp _ (by omega) (by omega)).trans HM3.out.r14
      have r154 : RowAt w4 (w1.heap.size + 1) #[.int .i32 7] 28 := (hpp _ (by omega) (by omega)).trans HM3.out.r15
      obtain ⟨⟨g, hrec, hg⟩, hok⟩ := HU3.out
      have hrec4 := hrec.kept (w' := w4) (hpp _ (by omega) (by omega))
      have hcnt : (if (F k0).isSome then cnt else cnt + 1) = 2 := by
        obtain ⟨e1, e2⟩ := HM3.out.f0 rfl
        rw [e1, e2]; rfl
      rw [hcnt] at hmp
      have hF7 : putF F k0 (.slice (some ⟨C, 0, none⟩) n1 n1) k7 = some (vS (w1.heap.size + 1 + 1 + 1)) := (putF_other _ _ kne).trans HM3.out.f7
      have b4 : Below w.heap.size w w4 := B3.out.trans (hFr.below (fun j h => by omega) B3.out.size)
      have hx4 : Below w4.heap.size w4 (w4.alloc (.cells #[.int .i32 0] 28)) := (Below.refl _ _).alloc (Nat.le_refl _) _
      have hmp := hmp.below hx4 hmp.lt
      have hC := hC.below hx4 hC.lt
      have HP4 := Lib.hid (hP.below hx4 hP.lt)
      have rK4 := rK4.below hx4 rK4.lt
      have r144 := r144.below hx4 r144.lt
      have r154 := r154.below hx4 r154.lt
      have hrec4 := hrec4.below hx4 hrec4.lt
      have B4 := Lib.hid (b4.trans (hx4.mono b4.size))
      clear hFr hpp hx4 b4 hP hrec
      have HOK := Lib.hid (And.intro hg hok)
      clear hg hok
      go_wp2_with fail
      generalize hW : w4.alloc (.cells #[.int .i32 0] 28) = W at HP4 hmp hC rK4 r144 r154 hrec4 B4 ⊢
      clear hW
      refine (expr8 p S _ _ _ HP4.out).mono ?_
      rintro e w7 ⟨rfl, rfl⟩
      have l7 := run_lk hmp keyL Tryd.underlying29 (z30 W) 7 _ hF7
      have l0 := run_lk hmp keyL Tryd.underlying29 (z30 W) 0 _ (putF_same _ _ _)
      have hlen := hmp.len (ty := 3) Tryd.underlying29
      have cK := rK4.cellv (j := 0) (v := .string ⟨#[107, 101, 101, 112]⟩) rfl
      have c14 := r144.cellv (j := 0) (v := .int .i32 0) rfl
      have c15 := r154.cellv (j := 0) (v := .int .i32 7) rfl
      simp only [lookRes, vS] at l7 l0
      have HC := Lib.hid hC
      have HREC := Lib.hid hrec4
      have hn0 := HN.out
      have hn1 : ¬ n1 = 0 := by omega
      have hn2 : ((n1 : Int) == 0) = false := by simp; omega
      have hRW := hrec4.lt
      have hCW := hC.lt
      clear hmp hC rK4 r144 r154 hrec4 hF7 hcnt hn0
      go_wp2_with fail
      go_loopw [24] (fun v24 wr => ∃ q m : Nat, q ≤ n1 ∧ v24 = .int .i64 q ∧ wr = W.drewN m) (fun v24 _ => n1 - (intOf v24).toNat)
      case atStart => exact ⟨0, 0, Nat.zero_le _, rfl, rfl⟩
      case round =>
        obtain ⟨q, m, hq, rfl, rfl⟩ := hrel
        by_cases hlt : q < n1
        · as_aux_lemma =>
          obtain ⟨g1, g2⟩ := HOK.out.1 q hlt
          have hok := (HOK.out.2 q hlt).1
          have m0 := fun k => (HREC.out.drewN k).cell0 hlt (by omega)
          have m1 := fun k => (HREC.out.drewN k).cell hlt (j := 1) (by omega)
          have mC : ∀ k, (W.drewN k).cell? ⟨C, q, none⟩ = some (.string (S.extract (s q) (s q + l q))) := fun k => HC.out.cell hlt
          rw [g1] at m0
          rw [g2] at m1
          generalize s q = a at m0 mC hok
          generalize l q = b at m1 mC hok
          have hsl : ∀ W, (Instr.slice 9 (.string S) (some (.int .i64 a)) (some (.int .i64 ((a : Int) + b))) none).run Tryd.prog W = .ok (.string (S.extract a (a + b))) W := fun W => by
            have := run_slice_string W 9 S .i64 .i64 (a : Int) ((a : Int) + b) Tryd.underlying9 (by omega) (by omega) (by omega)
            rw [show ((a : Int) + b).toNat = a + b by omega, Int.toNat_natCast] at this
            exact this
          generalize S.extract a (a + b) = t at mC hsl
          have m0' := m0 m
          have m1' := m1 m
          clear g1 g2
          go_wp2_with fail
          go_quiet (fail)
          go_wp2_with fail
          go_roundw
          case rel => exact ⟨q + 1, _, by omega, by go_num, rfl⟩
          case measure => simp [intOf]; omega
        · as_aux_lemma =>
          go_wp2_with fail
          go_ret
          exact ⟨rfl, below_drewN B4.out _⟩

set_option maxHeartbeats 1000000 in
theorem mainP2 (S : ByteArray) (a1 a2 : Option Addr) (n1 c1 n2 c2 : Nat) (z1 z2 : Nat → Int) (w : World) (hS : S.size ≤ 65536) (h1 : n1 ≤ 4096) (h2 : n2 ≤ 4096) (hn : 0 < n1) (i1 : I32s w a1 n1 z1) (i2 : I32s w a2 n2 z2) :
    Calls Tryd.prog 3 #[.string S, .slice a1 n1 c1, .slice a2 n2 c2, .bool true, .bool true] w (Po w) := by
  have H := Lib.hid (zz4 S a1 a2 n1 c1 n2 c2 true true w (by omega) (by omega) (by omega))
  have HR := Lib.hid (ranges5 S a1 a2 n1 c1 n2 c2 z1 z2 w hS h1 i1 i2)
  have HN := Lib.hid hn
  clear hn
  have hmm := @run_makeMap Tryd.prog
  have heq := fun (W : World) (r : Option Nat) => run_eql_map_nil W 29 28 30 r Tryd.underlying29
  clear i1 i2
  go_enter Tryd.func3, Tryd.ntmps3
  go_wp2_with fail
  refine H.out.mono ?_
  clear H
  rintro e w' ⟨q, rfl, hq, rfl⟩
  cases q
  · as_aux_lemma =>
    clear hq HR
    go_wp2_with fail
    go_ret
    exact ⟨rfl, Below.refl _ _⟩
  · as_aux_lemma =>
    clear hq
    go_wp2_with fail
    refine HR.out.mono ?_
    clear HR
    rintro e w1 ⟨hb, ⟨v, rfl⟩ | ⟨s, l, rfl, hu⟩⟩
    · as_aux_lemma =>
      have HB := Lib.hid hb
      clear hb
      go_wp2_with fail
      go_ret
      exact ⟨rfl, HB.out⟩
    · as_aux_lemma =>
      have HB := Lib.hid hb
      have HU := Lib.hid hu
      have zw : w.heap.size < w1.heap.size := by obtain ⟨g, hr, _⟩ := hu.row; exact hr.lt
      clear hb hu
      go_wp2_with (at_mapUpdate; refine wpList_putN rfl (.tmp 62) (.tmp 63) (.tmp 64) 29 rfl 28 30 keyL Tryd.underlying29 (w1.heap.size + 1 + 1) 0 1 (fun _ => none) rfl (MapIs.alloc (MapIs.newAt IsLoc (by simp)) _) k7 _ rfl rfl ⟨_, rfl⟩ rfl ?_)
      intro w5 h5 t5
      have z5 : w1.heap.size + 4 ≤ w5.heap.size := by have := t5.size; simp at this; omega
      have q4 : RowAt w5 w1.heap.size #[.int .i32 0] 28 := t5.row ((((RowAt.new _ _ _).alloc _).alloc _).alloc _) (by omega)
      have q5 : RowAt w5 (w1.heap.size + 1) #[.int .i32 7] 28 := t5.row (((newAt (by simp)).alloc _).alloc _) (by omega)
      have qK : RowAt w5 (w1.heap.size + 1 + 1 + 1) #[.string sK] 9 := t5.row (newAt (by simp)) (by omega)
      have b5 : Below w1.heap.size w1 w5 := (((((Below.refl _ _).alloc (Nat.le_refl _) _).alloc (by simp) _).alloc (by simp; omega) _).alloc (by simp; omega) _).trans (t5.below (by omega))
      have c4 := q4.cellv (j := 0) (v := .int .i32 0) rfl
      have z4 : w1.heap.size < w5.heap.size := by omega
      go_wp2_with (at_mapUpdate; refine wpList_putN rfl (.tmp 66) (.tmp 67) (.tmp 68) 29 rfl 28 30 keyL Tryd.underlying29 (w1.heap.size + 1 + 1) 1 2 (putF (fun _ => none) k7 (.slice (some ⟨w1.heap.size + 1 + 1 + 1, 0, none⟩) 1 1)) rfl (MapIs.alloc h5 _) k0 _ rfl rfl ⟨_, rfl⟩ (by rw [putF_other _ _ kne.symm]; rfl) ?_)
      intro w6 h6 t6
      have z6 : w1.heap.size + 4 ≤ w6.heap.size := by have := t6.size; simp at this; omega
      have hF : ∃ F cnt, MS w1 w6 F cnt true := ms_old h6 (t6.row (qK.alloc _) (by omega)) (t6.row (newAt rfl) (by omega)) (t6.row (q4.alloc _) (by omega)) (t6.row (q5.alloc _) (by omega)) ((b5.alloc b5.size _).trans (t6.below (by omega)))
      clear h5 t5 q4 q5 qK b5 hmm h6 t6 c4 z4 z5
      obtain ⟨F, cnt, hms⟩ := hF
      have HMS := Lib.hid hms
      have B5 := Lib.hid (HB.out.trans (hms.bel.mono HB.out.size))
      clear hms
      go_wp2_with fail
      refine (new6 S (some (w1.heap.size + 1 + 1)) _ n1 n1 _).mono ?_
      rintro e w3 ⟨p, rfl, hps, hb3, hpl⟩
      have HPS := Lib.hid hps
      have HM3 := Lib.hid (HMS.out.kept hb3)
      have HU3 := Lib.hid ((HU.out.below HMS.out.bel).below hb3)
      have B3 := Lib.hid (B5.out.trans (hb3.mono B5.out.size))
      have zM := HMS.out.mp.lt
      clear hps hb3
      have zp := HPS.out.lt
      have zM3 := HM3.out.mp.lt
      go_wp2_with fail
      refine (call7Y p (w1.heap.size + 1 + 1) w.heap.size n1 cnt S s l F _ zp zM3 (save9 p (w1.heap.size + 1 + 1) w.heap.size n1 cnt S s l F _ hS h1 HN.out (HPS.out.alloc _) (HU3.out.below ((Below.refl _ _).alloc (Nat.le_refl _) _)) (HM3.out.mp.alloc _))).mono ?_
      rintro e w4 ⟨C, rfl, hmp, hC, hP, hFr⟩
      have hpp : ∀ j, j < w6.heap.size → j ≠ w1.heap.size + 1 + 1 → w4.heap[j]? = w3.heap[j]? := fun j hj hne => hFr.block j (by omega) (fun h => by omega)
      have rK4 : RowAt w4 (w1.heap.size + 1 + 1 + 1) #[.string sK] 9 := (hpp _ (by omega) (by omega)).trans HM3.out.rK
      have r144 : RowAt w4 w1.heap.size #[.int .i32 0] 28 := (hpp _ (by omega) (by omega)).trans HM3.out.r14
      have r154 : RowAt w4 (w1.heap.size + 1) #[.int .i32 7] 28 := (hpp _ (by omega) (by omega)).trans HM3.out.r15
      obtain ⟨⟨g, hrec, hg⟩, hok⟩ := HU3.out
      have hrec4 := hrec.kept (w' := w4) (hpp _ (by omega) (by omega))
      have hcnt : (if (F k0).isSome then cnt else cnt + 1) = 2 := by
        obtain ⟨O, e1, _, e2⟩ := HM3.out.g0 rfl
        rw [e1, e2]; rfl
      rw [hcnt] at hmp
      have hF7 : putF F k0 (.slice (some ⟨C, 0, none⟩) n1 n1) k7 = some (vS (w1.heap.size + 1 + 1 + 1)) := (putF_other _ _ kne).trans HM3.out.f7
      have b4 : Below w.heap.size w w4 := B3.out.trans (hFr.below (fun j h => by omega) B3.out.size)
      have hx4 : Below w4.heap.size w4 (w4.alloc (.cells #[.int .i32 0] 28)) := (Below.refl _ _).alloc (Nat.le_refl _) _
      have hmp := hmp.below hx4 hmp.lt
      have hC := hC.below hx4 hC.lt
      have HP4 := Lib.hid (hP.below hx4 hP.lt)
      have rK4 := rK4.below hx4 rK4.lt
      have r144 := r144.below hx4 r144.lt
      have r154 := r154.below hx4 r154.lt
      have hrec4 := hrec4.below hx4 hrec4.lt
      have B4 := Lib.hid (b4.trans (hx4.mono b4.size))
      clear hFr hpp hx4 b4 hP hrec
      have HOK := Lib.hid (And.intro hg hok)
      clear hg hok
      go_wp2_with fail
      generalize hW : w4.alloc (.cells #[.int .i32 0] 28) = W at HP4 hmp hC rK4 r144 r154 hrec4 B4 ⊢
      clear hW
      refine (expr8 p S _ _ _ HP4.out).mono ?_
      rintro e w7 ⟨rfl, rfl⟩
      have l7 := run_lk hmp keyL Tryd.underlying29 (z30 W) 7 _ hF7
      have l0 := run_lk hmp keyL Tryd.underlying29 (z30 W) 0 _ (putF_same _ _ _)
      have hlen := hmp.len (ty := 3) Tryd.underlying29
      have cK := rK4.cellv (j := 0) (v := .string ⟨#[107, 101, 101, 112]⟩) rfl
      have c14 := r144.cellv (j := 0) (v := .int .i32 0) rfl
      have c15 := r154.cellv (j := 0) (v := .int .i32 7) rfl
      simp only [lookRes, vS] at l7 l0
      have HC := Lib.hid hC
      have HREC := Lib.hid hrec4
      have hn0 := HN.out
      have hn1 : ¬ n1 = 0 := by omega
      have hn2 : ((n1 : Int) == 0) = false := by simp; omega
      have hRW := hrec4.lt
      have hCW := hC.lt
      clear hmp hC rK4 r144 r154 hrec4 hF7 hcnt hn0
      go_wp2_with fail
      go_loopw [24] (fun v24 wr => ∃ q m : Nat, q ≤ n1 ∧ v24 = .int .i64 q ∧ wr = W.drewN m) (fun v24 _ => n1 - (intOf v24).toNat)
      case atStart => exact ⟨0, 0, Nat.zero_le _, rfl, rfl⟩
      case round =>
        obtain ⟨q, m, hq, rfl, rfl⟩ := hrel
        by_cases hlt : q < n1
        · as_aux_lemma =>
          obtain ⟨g1, g2⟩ := HOK.out.1 q hlt
          have hok := (HOK.out.2 q hlt).1
          have m0 := fun k => (HREC.out.drewN k).cell0 hlt (by omega)
          have m1 := fun k => (HREC.out.drewN k).cell hlt (j := 1) (by omega)
          have mC : ∀ k, (W.drewN k).cell? ⟨C, q, none⟩ = some (.string (S.extract (s q) (s q + l q))) := fun k => HC.out.cell hlt
          rw [g1] at m0
          rw [g2] at m1
          generalize s q = a at m0 mC hok
          generalize l q = b at m1 mC hok
          have hsl : ∀ W, (Instr.slice 9 (.string S) (some (.int .i64 a)) (some (.int .i64 ((a : Int) + b))) none).run Tryd.prog W = .ok (.string (S.extract a (a + b))) W := fun W => by
            have := run_slice_string W 9 S .i64 .i64 (a : Int) ((a : Int) + b) Tryd.underlying9 (by omega) (by omega) (by omega)
            rw [show ((a : Int) + b).toNat = a + b by omega, Int.toNat_natCast] at this
            exact this
          generalize S.extract a (a + b) = t at mC hsl
          have m0' := m0 m
          have m1' := m1 m
          clear g1 g2
          go_wp2_with fail
          go_quiet (fail)
          go_wp2_with fail
          go_roundw
          case rel => exact ⟨q + 1, _, by omega, by go_num, rfl⟩
          case measure => simp [intOf]; omega
        · as_aux_lemma =>
          go_wp2_with fail
          go_ret
          exact ⟨rfl, below_drewN B4.out _⟩


end Go.Proofs.YtncmpgoggagdbadDoor
