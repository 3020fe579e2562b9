import Derived.Test.YtncmpgoggagdbadDoorKit
import Derived.Test.YtncmpgoggagdbadDoorScE
namespace Go.Proofs.YtncmpgoggagdbadDoor
open Go.ChangeShapes Go.WideShapes Go.ChangeAt Go.RowKit
set_option linter.unusedVariables false
set_option maxRecDepth 100000
set_option maxHeartbeats 2000000

theorem info9 : (Tryd.prog.info? 9).map (fun i => (i.zero, i.size, i.bytes)) = some (some (.string ⟨#[]⟩), 1, 16) := by kernel_rfl
/-- The texts of the ranges. -/
def tx (S : ByteArray) (s l : Nat → Nat) : Nat → Value := fun i => .string (S.extract (s i) (s i + l i))
def k0 : Value := .agg #[.int .i32 0]
def SvY (p M R n k : Nat) (S : ByteArray) (s l : Nat → Nat) (F : Value → Option Value) (w : World) (e : Ending) (w' : World) : Prop := ∃ C, e = .returned (.agg #[.int .i32 0]) ∧
  MapIs w' M IsLoc (putF F k0 (.slice (some ⟨C, 0, none⟩) n n)) (if (F k0).isSome then k else k + 1) ∧ RowUpTo w' C 9 n n (tx S s l) ∧ PS w' p S (.map (some M)) (.slice (some ⟨R, 0, none⟩) n n) ∧ Fr (fun j => j = p ∨ j = M) w w'
theorem save9 (p M R n k : Nat) (S : ByteArray) (s l : Nat → Nat) (F : Value → Option Value) (w : World) (hS : S.size ≤ 65536) (hn : n ≤ 4096) (hn0 : 0 < n) (h : PS w p S (.map (some M)) (.slice (some ⟨R, 0, none⟩) n n)) (hR : RU w R n n S s l) (hM : MapIs w M IsLoc F k) :
    Calls Tryd.prog 9 #[.pointer (some ⟨p, 0, none⟩)] w (SvY p M R n k S s l F w) := by
  obtain ⟨i0, hi, hz0, hz1, hz2⟩ := info_parts info9
  have hlt := h.lt
  have hMlt := hM.lt
  have HPS := Lib.hid h
  obtain ⟨cs, hr, hc⟩ := h
  have c113 := hr.cellv hc.c113
  have c202 := hr.cellv hc.c202
  have c254 := hr.cellv hc.c254
  have HR := Lib.hid hR
  have HM := Lib.hid hM
  clear hr hc hR hM
  have hnil := fun (W : World) (r : Option Nat) => run_neq_map_nil W 29 28 30 r Tryd.underlying29
  go_enter Tryd.func9, Tryd.ntmps9
  go_wp2_with fail
  refine (loc10 p 201 _ (later c254 (by go_grown))).mono ?_
  rintro e w2 ⟨rfl, h2⟩
  have hs := h2.size
  simp only [World.size_alloc] at hs
  have B2 : Below w.heap.size w w2 := Below.trans (by go_grown) (h2.mono (by go_size))
  have r2 : RowAt w2 w.heap.size #[.int .i32 0] 28 := (RowAt.new _ _ _).below h2 (by go_size)
  have d113 := later c113 B2
  have d202 := later c202 B2
  have hlt2 : w.heap.size < w2.heap.size := by omega
  have hp2 : p < w2.heap.size := by omega
  have HB := Lib.hid B2
  have HR2 := Lib.hid r2
  clear h2 B2 r2 c113 c202 c254
  go_wp2_with (first | (at_make; refine wpList_make_full _ rfl _ _ 30 rfl (w2.heap.size + 1) 9 i0 _ 1 Tryd.underlying30 hi hz0 hz1 .i64 .i64 _ _ n rfl rfl rfl rfl (by rw [hz2]; omega) (by unfold maxLen; omega) (by go_size) ?_))
  intro w3 hown hgrow
  clear hi hz0 hz1 hz2
  obtain ⟨cs0, hr0, hs0, _⟩ := RowAt.of_owns hown
  have b3 : Below (w2.heap.size + 1) (w2.alloc (.cells #[.int .i32 0] 28)) w3 := (Below.refl _ _).grown hgrow (by simp) (fun k hk => by cases hk)
  have b2 : Below w2.heap.size w2 w3 := ⟨b3.os, b3.tape, b3.output, by have := b3.size; simp at this; omega, fun j hj => (b3.block j (by omega)).trans (Below.heap_alloc _ _ _ hj)⟩
  have r3 : RowAt w3 w2.heap.size #[.int .i32 0] 28 := (RowAt.new _ _ _).below b3 (by omega)
  have d202 := later d202 b2
  have hp3 : p < w3.heap.size := by have := b2.size; omega
  have hC : RowUpTo w3 (w2.heap.size + 1) 9 n 0 (tx S s l) := RowUpTo.start hr0 (by omega) _
  have B3 : Below w.heap.size w w3 := HB.out.trans (b2.mono HB.out.size)
  have HB3 := Lib.hid B3
  have HR3 := Lib.hid r3
  have Hr2 := Lib.hid (HR2.out.below b2 hlt2)
  have HPS3 := Lib.hid (HPS.out.below B3 hlt)
  have HRU3 := Lib.hid (HR.out.below B3)
  have HM3 := Lib.hid (HM.out.below B3 hMlt)
  have hw3 : w2.heap.size + 1 < w3.heap.size := hr0.lt
  have hRlt : R < w.heap.size := by
    obtain ⟨⟨g, hr, _⟩, _⟩ := HR.out
    exact hr.lt
  clear hown hgrow hr0 hs0 b3 b2 r3 B3 HB HR2
  clear HR HM HPS
  go_wp2_with fail
  go_loopw [38] (fun v38 wr => ∃ q : Nat, q ≤ n ∧ v38 = .int .i64 q ∧ RowUpTo wr (w2.heap.size + 1) 9 n q (tx S s l) ∧ Below (w2.heap.size + 1) w3 wr) (fun v38 _ => n - (intOf v38).toNat)
  case atStart => exact ⟨0, Nat.zero_le _, rfl, hC, ⟨rfl, rfl, rfl, Nat.le_refl _, fun _ _ => rfl⟩⟩
  case round =>
    obtain ⟨q, hq, rfl, hP, hb⟩ := hrel
    clear hC
    by_cases hlt' : q < n
    · as_aux_lemma =>
      have hRU := HRU3.out.row
      obtain ⟨g, hr, hg⟩ := hRU
      have m0 := hr.cell0 hlt' (by omega)
      have m1 := hr.cell hlt' (j := 1) (by omega)
      rw [(hg q hlt').1] at m0
      rw [(hg q hlt').2] at m1
      have hok := HRU3.out.ok q hlt'
      have zb := hb.size
      have m0 := (hb.cell (p := ⟨R, q * 2, none⟩) (show R < w2.heap.size + 1 by omega)).trans m0
      have m1 := (hb.cell (p := ⟨R, q * 2 + 1, none⟩) (show R < w2.heap.size + 1 by omega)).trans m1
      obtain ⟨cs1, hr1, hc1⟩ := HPS3.out
      have p60 := (hb.cell (p := ⟨p, 60, none⟩) (show p < w2.heap.size + 1 by omega)).trans (hr1.cellv hc1.c60)
      obtain ⟨a, ha⟩ : ∃ a, s q = a := ⟨_, rfl⟩
      obtain ⟨b, hb'⟩ : ∃ b, l q = b := ⟨_, rfl⟩
      have hx : tx S s l q = .string (S.extract a (a + b)) := by unfold tx; rw [ha, hb']
      rw [ha] at m0 hok
      rw [hb'] at m1 hok
      have HX := Lib.hid hx
      have HP := Lib.hid hP
      have HBB := Lib.hid hb
      have HOK := Lib.hid hok
      have hpr : p < wr.heap.size := by omega
      have hRr : R < wr.heap.size := by omega
      have hCr : w2.heap.size + 1 < wr.heap.size := by omega
      clear hr hg hr1 hc1 hP hb hok ha hb' hx d202
      go_wp2_with fail
      have r6 : RowAt (wr.alloc (.cells #[.int .i32 a, .int .i32 b] 37)) wr.heap.size #[.int .i32 a, .int .i32 b] 37 := RowAt.new _ _ _
      have B6 : Below wr.heap.size wr (wr.alloc (.cells #[.int .i32 a, .int .i32 b] 37)) := (Below.refl _ _).alloc (Nat.le_refl _) _
      generalize hW : wr.alloc (.cells #[.int .i32 a, .int .i32 b] 37) = W at r6 B6 ⊢
      clear hW
      have e60 := later p60 B6
      have e60d : W.drew.cell? ⟨p, 60, none⟩ = some (.string S) := e60
      have E60 := Lib.hid e60d
      clear e60d
      have e0 := r6.cellv (j := 0) (v := .int .i32 a) rfl
      have e1 := r6.cellv (j := 1) (v := .int .i32 b) rfl
      have HQ := Lib.hid (HP.out.below B6 hCr)
      have hpW : p < W.heap.size := by have := B6.size; omega
      have HB6 := Lib.hid B6
      clear r6 B6 p60 m0 m1
      go_region_with (go_at_call 11; (with_reducible refine (text11 p a b S W.drew hS E60.out HOK.out).mono ?_); rintro e w5 ⟨rfl, h5⟩; have HQ5 := Lib.hid (HQ.out.below (w := W.drew) h5 HQ.out.lt); obtain ⟨x0, y0⟩ := HQ5.out.old hlt'; have y1 := HQ5.out.frozen q; have y2 := HQ5.out.lt; have hp5 : p < w5.heap.size := (by have := h5.size; have h9 : W.heap.size ≤ w5.heap.size := this; omega); have HB5 : Hid (Below wr.heap.size wr w5) := Lib.hid (HB6.out.drew.trans (h5.mono HB6.out.size)))
      all_goals
        go_wp2_with fail
        go_roundw
        case rel =>
          have h9 := HQ5.out.step hlt'
          rw [HX.out] at h9
          exact ⟨q + 1, by omega, by go_num, h9, (HBB.out.trans (HB5.out.mono (by omega))).setCell (Nat.le_refl _) _⟩
        case measure => simp [intOf]; omega
    · as_aux_lemma =>
      obtain rfl : q = n := by omega
      clear hlt' d202
      have zb := hb.size
      have u3 := HM3.out.below hb (show M < w2.heap.size + 1 by omega)
      have r3 := HR3.out.below hb (Nat.lt_succ_self _)
      have r2 := Hr2.out.below hb (show w.heap.size < w2.heap.size + 1 by omega)
      have ps := HPS3.out.below hb (show p < w2.heap.size + 1 by omega)
      have hMp : M ≠ p := fun e => by
        obtain ⟨cs1, hr1, _⟩ := ps
        subst e
        have := u3.notRow 254
        rw [hr1.cellv ‹PC _ _ _ _›.c254] at this
        cases this
      have B1 : Below w.heap.size w wr := HB3.out.trans (hb.mono (by omega))
      obtain ⟨w9, hrun, hM9, hT⟩ := (u3.kept (w' := wr.drew) rfl).update (x := .slice (some ⟨w2.heap.size + 1, 0, none⟩) q q) keyL Tryd.underlying29 (v := k0) ⟨_, rfl⟩
      have hr : (Instr.mapUpdate 29 (.map (some M)) (.agg #[.int .i32 0]) (.slice (some ⟨w2.heap.size + 1, 0, none⟩) q q)).run Tryd.prog wr.drew = .ok () w9 := hrun
      have P9 : PS w9 p S (.map (some M)) (.slice (some ⟨R, 0, none⟩) q q) := ps.kept (hT.block p (fun e => hMp e.symm))
      have t3 : RowAt w9 w2.heap.size #[.int .i32 0] 28 := hT.row r3 (by omega)
      have t2 : RowAt w9 w.heap.size #[.int .i32 0] 28 := hT.row r2 (by omega)
      have tC : RowUpTo w9 (w2.heap.size + 1) 9 q q (tx S s l) := hP.kept (hT.block _ (by omega))
      have F9 : Fr (fun j => j = p ∨ j = M) w w9 := (Fr.of_below B1.drew).turned hT (.inl (.inr rfl))
      obtain ⟨cs1, hr1, hc1⟩ := ps
      have c113 := hr1.cellv hc1.c113
      have e3 := r3.cellv (j := 0) (v := .int .i32 0) rfl
      obtain ⟨cs2, hr2, hc2⟩ := id P9
      have v202 := hr2.cellv hc2.c202
      have vf := hr2.frozen 202
      have v3 := t3.cellv (j := 0) (v := .int .i32 0) rfl
      have v2 := t2.cellv (j := 0) (v := .int .i32 0) rfl
      have vf2 := t2.frozen 0
      have hp9 := hr2.lt
      have h29 := t2.lt
      have h39 := t3.lt
      have hpr : p < wr.heap.size := by omega
      have h3r : w2.heap.size < wr.heap.size := by omega
      have HP9 := Lib.hid P9
      have HF9 := Lib.hid F9
      have HT2 := Lib.hid t2
      have HM9 := Lib.hid hM9
      have HC9 := Lib.hid tC
      have hne : w.heap.size ≠ p := by omega
      have hne2 : w2.heap.size ≠ p := by omega
      have hC1 : w2.heap.size + 1 ≠ p := by omega
      have hC2 : w2.heap.size + 1 ≠ w.heap.size := by omega
      clear hrun hM9 hT P9 t3 t2 tC F9 hr1 hc1 hr2 hc2 u3 r3 r2 hP hb B1 HB3 HR3 Hr2 HPS3 HRU3 HM3
      go_wp2_with fail
      go_region
      all_goals
        go_wp2_with fail
        have x2 := (HT2.out.set_other hne 202 (.slice (some ⟨R, 0, none⟩) q q)).set 0 (.int .i32 0)
        have e2 := x2.cellv (j := 0) (v := .int .i32 0) rfl
        refine bodyPost_ret (v := .agg #[.int .i32 0]) (by simp only [results, Tryd.results9]; simp [go_sem, e2]) rfl ⟨w2.heap.size + 1, rfl, ?_, ?_, ?_, ?_⟩
        · exact (HM9.out.setOther hMp _).setOther (by omega) _
        · exact (HC9.out.kept (Below.heap_setCell _ _ _ _ hC1)).kept (Below.heap_setCell _ _ _ _ hC2)
        · obtain ⟨cs2, hr2, hc2⟩ := HP9.out
          have hl : cs2.size > 254 := (Array.getElem?_eq_some_iff.1 hc2.c254).1
          exact ⟨_, (hr2.set 202 _).set_other (fun e => hne e.symm) _ _, ⟨by rw [Array.getElem?_setIfInBounds, if_neg (by decide)]; exact hc2.c60, by rw [Array.getElem?_setIfInBounds, if_neg (by decide)]; exact hc2.c113, by rw [Array.getElem?_setIfInBounds, if_pos rfl, if_pos (by omega)], by rw [Array.getElem?_setIfInBounds, if_neg (by decide)]; exact hc2.c254⟩⟩
        · exact (HF9.out.set (.inl (.inl rfl))).set (.inr (Nat.le_refl _))

def Sv (P : World → Ending → World → Prop) := P
theorem call7 (v : Value) (w : World) (Q : Ending → World → Prop) (h : Calls Tryd.prog 9 #[v] (w.alloc (.cells #[.int .i32 0] 28)) Q) (hq : ∀ e w', Q e w' → e = .returned (.agg #[.int .i32 0]) ∧ w'.cell? ⟨w.heap.size, 0, none⟩ = some (.int .i32 0) ∧ w'.frozen? ⟨w.heap.size, 0, none⟩ = false ∧ w.heap.size < w'.heap.size) :
    Calls Tryd.prog 7 #[v] w fun e w' => ∃ w1, Q (.returned (.agg #[.int .i32 0])) w1 ∧ e = .returned (.agg #[.int .i32 0]) ∧ w' = w1.setCell ⟨w.heap.size, 0, none⟩ (.int .i32 0) := by
  have H := Lib.hid h
  have HQ := Lib.hid hq
  clear h hq
  go_enter Tryd.func7, Tryd.ntmps7
  go_wp2_with fail
  refine H.out.mono ?_
  intro e w1 hq
  obtain ⟨rfl, c1, c2, c3⟩ := HQ.out e w1 hq
  have hq' := Lib.hid hq
  clear hq
  go_wp2_with fail
  have e2 : (w1.setCell ⟨w.heap.size, 0, none⟩ (.int .i32 0)).cell? ⟨w.heap.size, 0, none⟩ = some (.int .i32 0) := by simp [go_sem, c1]
  refine bodyPost_ret (v := .agg #[.int .i32 0]) (by simp only [results, Tryd.results7]; simp [go_sem, e2]) rfl ⟨w1, hq'.out, rfl, rfl⟩

end Go.Proofs.YtncmpgoggagdbadDoor
