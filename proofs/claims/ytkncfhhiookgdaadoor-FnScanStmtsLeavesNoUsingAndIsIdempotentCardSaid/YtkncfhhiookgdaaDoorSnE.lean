import Derived.Test.YtkncfhhiookgdaaDoorKit
import Derived.Test.YtkncfhhiookgdaaDoorSnD
namespace Go.Proofs.YtkncfhhiookgdaaDoor
open Go.ChangeShapes Go.WideShapes Go.ChangeAt Go.RowKit
set_option linter.unusedVariables false
set_option maxRecDepth 100000
set_option maxHeartbeats 2000000

open Go.Extern
def EmptyIs (v : Int) (w : World) (e : Ending) (w' : World) : Prop := ∃ b, e = .returned (.agg #[.iface 202 (ptr b), .int .i32 v]) ∧ Below w.heap.size w w'
theorem empty16 (v : Int) (w : World) : Calls Tryd.prog 16 #[.int .i32 v] w (EmptyIs v w) := by
  have r := (RowAt.new w #[.iface 202 (.pointer (some ⟨w.heap.size + 1, 0, none⟩)), .int .i32 v] 72).alloc (.cells #[] 204)
  have e1 := r.cellv (j := 0) (v := .iface 202 (.pointer (some ⟨w.heap.size + 1, 0, none⟩))) rfl
  have e2 := r.cellv (j := 1) (v := .int .i32 v) rfl
  have bb := ((Below.refl w.heap.size w).alloc (Nat.le_refl _) (.cells #[.iface 202 (.pointer (some ⟨w.heap.size + 1, 0, none⟩)), .int .i32 v] 72)).alloc (by simp) (.cells #[] 204)
  have HB := Lib.hid bb
  clear bb r
  go_enter Tryd.func16, Tryd.ntmps16
  go_wp2_with fail
  exact bodyPost_ret (v := .agg #[.iface 202 (.pointer (some ⟨w.heap.size + 1, 0, none⟩)), .int .i32 v]) (by simp only [results, Tryd.results16]; simp [go_sem, e1, e2]) rfl ⟨w.heap.size + 1, rfl, HB.out⟩
theorem local18 (v : Int) (b : Nat) (w : World) : Calls Tryd.prog 18 #[.int .i32 v, ptr b] w fun e w' => e = .returned (.agg #[.iface 44 (ptr b), .int .i32 v]) ∧ Below w.heap.size w w' := by
  have r := RowAt.new w #[.iface 44 (ptr b), .int .i32 v] 72
  have e1 := r.cellv (j := 0) (v := .iface 44 (ptr b)) rfl
  have e2 := r.cellv (j := 1) (v := .int .i32 v) rfl
  have bb := (Below.refl w.heap.size w).alloc (Nat.le_refl _) (.cells #[.iface 44 (ptr b), .int .i32 v] 72)
  have HB := Lib.hid bb
  clear bb r
  go_enter Tryd.func18, Tryd.ntmps18
  go_wp2_with fail
  exact bodyPost_ret (v := .agg #[.iface 44 (ptr b), .int .i32 v]) (by simp only [results, Tryd.results18]; simp [go_sem, e1, e2]) rfl ⟨rfl, HB.out⟩
theorem kind17 (k : Int) (h0 : 0 ≤ k) (h4 : k ≤ 4) (w : World) : Calls Tryd.prog 17 #[.int .u8 k] w fun e w' => e = .returned (.int .u8 k) ∧ w = w' := by
  rcases (show k = 0 ∨ k = 1 ∨ k = 2 ∨ k = 3 ∨ k = 4 by omega) with rfl | rfl | rfl | rfl | rfl <;> (
    go_enter Tryd.func17, Tryd.ntmps17
    go_wp2_with fail
    go_ret
    exact ⟨rfl, rfl⟩)
theorem info72 : (Tryd.prog.info? 72).map (fun i => (i.zero, i.size, i.bytes)) = some (some (.agg #[.nilIface, .int .i32 0]), 2, 24) := by kernel_rfl
theorem info44 : (Tryd.prog.info? 44).map (fun i => (i.zero, i.size, i.bytes)) = some (some (.pointer none), 1, 8) := by kernel_rfl
theorem info213 : (Tryd.prog.info? 213).map (fun i => (i.zero, i.size, i.bytes)) = some (some (.agg #[.nilIface, .int .i32 0, .nilIface, .int .i32 0]), 4, 48) := by kernel_rfl
def zz (j : Nat) : Value := if j = 0 then .nilIface else .int .i32 0
/-- The first k statements have been made. -/
structure SB (w : World) (n G Lr k b0 : Nat) (lb : Nat → Option Nat) (eb : Nat → Nat) (st kd : Nat → Int) : Prop where
  stm : Rec w G 72 2 n (fun i j => if i < k then (if j = 0 then dataV (lb i) (eb i) else .int .i32 (st i)) else zz j)
  loc : Cells w Lr 44 n (fun i => if i < k then locV (lb i) else .pointer none)
  row : ∀ i b, i < k → lb i = some b → LocAt w b (kd i) ∧ b0 ≤ b ∧ b < w.heap.size
  inj : ∀ i j b, i < k → j < k → lb i = some b → lb j = some b → i = j
theorem LocAt.lt {w : World} {b : Nat} {kd : Int} (h : LocAt w b kd) : b < w.heap.size := by
  obtain ⟨x, y, g, m, r, _⟩ := h
  exact r.lt
theorem SB.stepN {wr w1 : World} {n G Lr k b0 e : Nat} {lb : Nat → Option Nat} {eb : Nat → Nat} {st kd : Nat → Int} (h : SB wr n G Lr k b0 lb eb st kd) (hk : k < n) (b1 : Below wr.heap.size wr w1) :
    SB ((w1.setCell ⟨G, k * 2, none⟩ (.iface 202 (ptr e))).setCell ⟨G, k * 2 + 1, none⟩ (.int .i32 (st k))) n G Lr (k + 1) b0 (fun i => if i = k then none else lb i) (fun i => if i = k then e else eb i) st kd := by
  have s1 := h.stm.below b1 h.stm.lt
  have l1 := h.loc.below b1 h.loc.lt
  have ⟨gs, gr, _⟩ := s1
  refine ⟨((s1.set0 hk (by decide) _).set hk (by decide) _).congr fun i hi j hj => ?_, ?_, fun i b hi hl => ?_, fun i j b hi hj h1 h2 => ?_⟩
  · unfold upd2
    by_cases e1 : i = k
    · subst e1
      rcases (show j = 0 ∨ j = 1 by omega) with rfl | rfl
      · simp [dataV]
      · simp
    · by_cases e2 : i < k
      · have e3 : i < k + 1 := by omega
        simp [e1, e2, e3]
      · have e3 : ¬ i < k + 1 := by omega
        simp [e1, e2, e3]
  · have ⟨ls, lr, _⟩ := l1
    refine ((l1.set_other (row_ne lr gr (by decide)) _ _).set_other (row_ne lr gr (by decide)) _ _).congr fun i hi => ?_
    by_cases e1 : i = k
    · subst e1
      simp [locV]
    · simp only [e1, if_false]
      by_cases e2 : i < k
      · rw [if_pos e2, if_pos (by omega)]
      · rw [if_neg e2, if_neg (by omega)]
  · by_cases e1 : i = k
    · simp [e1] at hl
    · simp only [e1, if_false] at hl
      obtain ⟨q1, q2, q3⟩ := h.row i b (by omega) hl
      refine ⟨q1.moved fun j es t r ht => ?_, q2, by have := b1.size; simp; omega⟩
      have r1 := r.below b1 r.lt
      have hne : j ≠ G := row_ne r1 gr (by rcases ht with rfl | rfl <;> decide)
      exact (r1.set_other hne _ _).set_other hne _ _
  · by_cases e1 : i = k
    · simp [e1] at h1
    · by_cases e2 : j = k
      · simp [e2] at h2
      · simp only [e1, e2, if_false] at h1 h2
        exact h.inj i j b (by omega) (by omega) h1 h2
theorem SB.stepL {wr w1 w3 : World} {n G Lr k b0 b : Nat} {lb : Nat → Option Nat} {eb : Nat → Nat} {st kd : Nat → Int} {kk : Int} (h : SB wr n G Lr k b0 lb eb st kd) (hk : k < n) (b1 : Below wr.heap.size wr w1) (hb : wr.heap.size ≤ b) (hb0 : b0 ≤ wr.heap.size) (hl : LocAt w1 b kk)
    (b3 : Below (w1.setCell ⟨Lr, k, none⟩ (ptr b)).heap.size (w1.setCell ⟨Lr, k, none⟩ (ptr b)) w3) :
    SB ((w3.setCell ⟨G, k * 2, none⟩ (.iface 44 (ptr b))).setCell ⟨G, k * 2 + 1, none⟩ (.int .i32 (st k))) n G Lr (k + 1) b0 (fun i => if i = k then some b else lb i) eb st (fun i => if i = k then kk else kd i) := by
  have s1 := h.stm.below b1 h.stm.lt
  have l1 := h.loc.below b1 h.loc.lt
  have ⟨ls, lr, _⟩ := l1
  have ⟨gs, gr, _⟩ := s1
  have hGL : G ≠ Lr := row_ne gr lr (by decide)
  have s2 := (s1.set_other hGL k (ptr b))
  have s3 := s2.below b3 s2.lt
  have ⟨gs3, gr3, _⟩ := s3
  have l2 := l1.set k (ptr b)
  have l3 := l2.below b3 l2.lt
  have mv : ∀ j es t, RowAt w1 j es t → (t = 49 ∨ t = 213) → RowAt ((w3.setCell ⟨G, k * 2, none⟩ (.iface 44 (ptr b))).setCell ⟨G, k * 2 + 1, none⟩ (.int .i32 (st k))) j es t := fun j es t r ht => by
    have r2 := r.set_other (row_ne r lr (by rcases ht with rfl | rfl <;> decide)) k (ptr b)
    have r3 := r2.below b3 r2.lt
    have hne : j ≠ G := row_ne r3 gr3 (by rcases ht with rfl | rfl <;> decide)
    exact (r3.set_other hne _ _).set_other hne _ _
  refine ⟨((s3.set0 hk (by decide) _).set hk (by decide) _).congr fun i hi j hj => ?_, ?_, fun i b' hi hl' => ?_, fun i j b' hi hj h1 h2 => ?_⟩
  · unfold upd2
    by_cases e1 : i = k
    · subst e1
      rcases (show j = 0 ∨ j = 1 by omega) with rfl | rfl
      · simp [dataV]
      · simp
    · by_cases e2 : i < k
      · have e3 : i < k + 1 := by omega
        simp [e1, e2, e3]
      · have e3 : ¬ i < k + 1 := by omega
        simp [e1, e2, e3]
  · have ⟨ls3, lr3, _⟩ := l3
    refine ((l3.set_other (row_ne lr3 gr3 (by decide)) _ _).set_other (row_ne lr3 gr3 (by decide)) _ _).congr fun i hi => ?_
    unfold upd
    by_cases e1 : i = k
    · subst e1
      simp [locV]
    · simp only [e1, if_false]
      by_cases e2 : i < k
      · rw [if_pos e2, if_pos (by omega)]
      · rw [if_neg e2, if_neg (by omega)]
  · by_cases e1 : i = k
    · simp only [e1, if_true, Option.some.injEq] at hl' ⊢
      subst hl'
      refine ⟨hl.moved mv, by omega, by have := hl.lt; have := b3.size; simp at this ⊢; omega⟩
    · simp only [e1, if_false] at hl' ⊢
      obtain ⟨q1, q2, q3⟩ := h.row i b' (by omega) hl'
      refine ⟨(q1.moved fun j es t r ht => r.below b1 r.lt).moved mv, q2, by have := b1.size; have := b3.size; simp at this ⊢; omega⟩
  · by_cases e1 : i = k
    · by_cases e2 : j = k
      · omega
      · simp only [e1, e2, if_true, if_false, Option.some.injEq] at h1 h2
        have := (h.row j b' (by omega) h2).2.2
        omega
    · by_cases e2 : j = k
      · simp only [e1, e2, if_true, if_false, Option.some.injEq] at h1 h2
        have := (h.row i b' (by omega) h1).2.2
        omega
      · simp only [e1, e2, if_false] at h1 h2
        exact h.inj i j b' (by omega) (by omega) h1 h2
set_option maxHeartbeats 8000000 in
theorem build8 (o0 o1 : Option Addr) (n0 c0 n1 c1 n : Nat) (z st : Nat → Int) (w : World) (hn : n ≤ 4096) (h0 : n ≤ n0) (h1 : n ≤ n1) (hK : ∀ i, i < n → ∃ x, o0 = some x ∧ w.cell? (x.add i) = some (.int .u8 (z i)) ∧ 0 ≤ z i ∧ z i ≤ 255) (hL : ∀ i, i < n → ∃ x, o1 = some x ∧ w.cell? (x.add i) = some (.int .i32 (st i))) :
    Calls Tryd.prog 8 #[.slice o0 n0 c0, .slice o1 n1 c1, .int .i64 n] w fun e w' => ∃ G Lr lb eb kd, e = .returned (.tuple #[.slice (some ⟨G, 0, none⟩) n n, .slice (some ⟨Lr, 0, none⟩) n n]) ∧ SB w' n G Lr n w.heap.size lb eb st kd ∧ Below w.heap.size w w' := by
  obtain ⟨i0, hi, hz0, hz1, hz2⟩ := info_parts info72
  obtain ⟨i1, gi, gz0, gz1, gz2⟩ := info_parts info44
  obtain ⟨i2, fi, fz0, fz1, fz2⟩ := info_parts info213
  have HK := Lib.hid hK
  have HL := Lib.hid hL
  clear hK hL
  go_enter Tryd.func8, Tryd.ntmps8
  go_wp2_with (at_make; refine wpList_make_full _ rfl _ _ 29 rfl w.heap.size 72 i0 _ 2 Tryd.underlying29 hi hz0 hz1 .i64 .i64 _ _ n rfl rfl rfl rfl (by rw [hz2]; omega) (by unfold maxLen; omega) (Nat.le_refl _) ?_)
  intro w1 hown hgrow
  have b1 : Below w.heap.size w w1 := (Below.refl _ _).grown hgrow (Nat.le_refl _) (fun k hk => by cases hk)
  have s1 : Rec w1 w.heap.size 72 2 n (fun i j => zz j) := (Rec.made hown rfl).congr fun i hi j hj => by
    rcases (show j = 0 ∨ j = 1 by omega) with rfl | rfl <;> rfl
  obtain ⟨G, hG⟩ : ∃ G, G = w.heap.size := ⟨_, rfl⟩
  rw [← hG] at s1 ⊢
  have H1 := Lib.hid (And.intro s1 b1)
  have z1 := b1.size
  have hG2 : Hid (w.heap.size ≤ G) := Lib.hid (by omega)
  clear hown hgrow s1 b1 hG
  go_wp2_with (at_make; refine wpList_make_full _ rfl _ _ 30 rfl w1.heap.size 44 i1 _ 1 Tryd.underlying30 gi gz0 gz1 .i64 .i64 _ _ n rfl rfl rfl rfl (by rw [gz2]; omega) (by unfold maxLen; omega) (Nat.le_refl _) ?_)
  intro w2 hown hgrow
  have b2 : Below w1.heap.size w1 w2 := (Below.refl _ _).grown hgrow (Nat.le_refl _) (fun k hk => by cases hk)
  have l2 : Cells w2 w1.heap.size 44 n (fun _ => .pointer none) := by
    have h' : w2.ownsRow w1.heap.size 44 1 (.slice (some ⟨w1.heap.size, 0, none⟩) n n) n (madeCells #[.pointer none] (n * 1)).toList := by simpa using hown
    have := Cells.made h'
    rw [Nat.mul_one] at this
    exact this.congr fun i _ => by simp [Nat.mod_one]
  obtain ⟨Lr, hLr⟩ : ∃ Lr, Lr = w1.heap.size := ⟨_, rfl⟩
  have hSB : Hid (SB w2 n G Lr 0 w.heap.size (fun _ => none) (fun _ => 0) st (fun _ => 0) ∧ Below w.heap.size w w2) := ⟨⟨(H1.out.1.below b2 H1.out.1.lt).congr fun i _ j _ => by simp, by rw [hLr]; exact l2.congr fun i _ => by simp, fun i b hi => by omega, fun i j b hi => by omega⟩, H1.out.2.trans (b2.mono z1)⟩
  have HGL : Hid (w.heap.size ≤ G ∧ w.heap.size ≤ Lr) := Lib.hid ⟨hG2.out, by omega⟩
  rw [← hLr]
  clear hown hgrow b2 l2 H1 hLr hG2
  go_wp2_with fail
  go_loopw [10, 11, 12] (fun v10 _ _ wr => ∃ (k : Nat) (lb : Nat → Option Nat) (eb : Nat → Nat) (kd : Nat → Int), k ≤ n ∧ v10 = .int .i64 k ∧ SB wr n G Lr k w.heap.size lb eb st kd ∧ Below w.heap.size w wr) (fun v10 _ _ _ => n - (intOf v10).toNat)
  case atStart => exact ⟨0, _, _, _, Nat.zero_le _, rfl, hSB.out.1, hSB.out.2⟩
  case round =>
    obtain ⟨k, lb, eb, kd, hk, rfl, hS, hb⟩ := hrel
    have HS := Lib.hid hS
    have HB := Lib.hid hb
    have zr := hb.size
    clear hS hb hSB
    by_cases hlt : k < n
    · obtain ⟨x, rfl, hx, hz, hz'⟩ := HK.out k hlt
      obtain ⟨y, rfl, hy⟩ := HL.out k hlt
      have hx' := later hx HB.out
      have hy' := later hy HB.out
      obtain ⟨zk, hzk⟩ : ∃ zk, z k = zk := ⟨_, rfl⟩
      obtain ⟨sk, hsk⟩ : ∃ sk, st k = sk := ⟨_, rfl⟩
      rw [hzk] at hx' hz hz'
      rw [hsk] at hy'
      have g0 := HS.out.stm.cell0 hlt (by decide)
      have g1 := HS.out.stm.cell (j := 1) hlt (by decide)
      have f0 := HS.out.stm.frozen (k * 2)
      have f1 := HS.out.stm.frozen (k * 2 + 1)
      have lG := HS.out.stm.lt
      simp only [Nat.lt_irrefl, if_false, zz, if_true, show ¬ (1 : Nat) = 0 from by decide] at g0 g1
      have e0 := HS.out.loc.cell hlt
      have f2 := HS.out.loc.frozen k
      have lL := HS.out.loc.lt
      simp only [Nat.lt_irrefl, if_false] at e0
      have HZ := Lib.hid (And.intro hzk hsk)
      have HY := Lib.hid hy
      clear hx hy hzk hsk
      by_cases h5 : zk % 6 = 5
      · have h5' : (zk % 6 == 5) = true := by simpa using h5
        clear h5
        go_wp2_with fail
        refine (empty16 sk wr).mono ?_
        rintro e w3 ⟨b, rfl, h3⟩
        have HN := Lib.hid (HS.out.stepN (e := b) hlt h3)
        have g0' := later g0 h3
        have g1' := later g1 h3
        have s3 := HS.out.stm.below h3 lG
        have f0' := s3.frozen (k * 2)
        have f1' := s3.frozen (k * 2 + 1)
        have lG' := s3.lt
        have H3 := Lib.hid h3
        unfold ptr at HN ⊢
        clear h3 s3 g0 g1 f0 f1 e0 f2 lL hx' hy'
        go_wp2_with fail
        go_roundw
        case rel =>
          refine ⟨k + 1, (fun i => if i = k then none else lb i), (fun i => if i = k then b else eb i), kd, by omega, by go_num, ?_, ?_⟩
          · have := HN.out
            rw [HZ.out.2] at this
            exact this
          · exact ((HB.out.trans (H3.out.mono zr)).setCell HGL.out.1 _).setCell HGL.out.1 _
        case measure => simp [intOf]; omega
      · have h5' : (zk % 6 == 5) = false := by simpa using h5
        obtain ⟨kk, hkk⟩ : ∃ kk, zk % 6 = kk := ⟨_, rfl⟩
        have hk0 : 0 ≤ kk := by omega
        have hk4 : kk ≤ 4 := by omega
        obtain ⟨m, hm⟩ : ∃ m : Nat, zk / 6 % 3 = (m : Int) := ⟨(zk / 6 % 3).toNat, by omega⟩
        have hm2 : m ≤ 2 := by omega
        obtain ⟨w4, hrun, hown, hgrow⟩ := run_make_full (P := Tryd.prog) wr.drew wr.drew.heap.size 46 213 i2 _ 4 Tryd.underlying46 fi fz0 fz1 .i64 .i64 m (by rw [fz2]; omega) (by unfold maxLen; omega) (Nat.le_refl _)
        have b4 : Below wr.heap.size wr w4 := Below.grown (w := wr.drew) ((Below.refl _ _).drew) hgrow (Nat.le_refl _) (fun k hk => by cases hk)
        have d4 : Rec w4 wr.heap.size 213 4 m (fun _ j => dz j) := (Rec.made hown rfl).congr fun i hi j hj => by
          rcases (show j = 0 ∨ j = 1 ∨ j = 2 ∨ j = 3 by omega) with rfl | rfl | rfl | rfl <;> rfl
        have H4 := Lib.hid (And.intro b4 d4)
        have z4 := b4.size
        clear hown hgrow b4 d4 h5
        have hv : (IntKind.i64.wrap (IntKind.u8.wrap (zk.tdiv 6))).tmod 3 = (m : Int) := by
          rw [Int.tdiv_eq_ediv_of_nonneg hz]
          have h1 : IntKind.u8.wrap (zk / 6) = zk / 6 := by simp [IntKind.wrap, IntKind.bits, IntKind.signed]; omega
          rw [h1]
          have h2 : IntKind.i64.wrap (zk / 6) = zk / 6 := by simp [IntKind.wrap, IntKind.bits, IntKind.signed]; omega
          rw [h2, Int.tmod_eq_emod_of_nonneg (by omega), hm]
        have hrun' : Sem.run Tryd.prog (Instr.makeSlice 46 (Value.int IntKind.i64 m) (Value.int IntKind.i64 m)) wr.drew = .ok (.slice (some ⟨wr.heap.size, 0, none⟩) m m) w4 := hrun
        clear hrun
        go_upto_region 9 with fail
        go_cut [11, 12] (fun v11 v12 wx => v11 = .int .u8 kk ∧ ∃ b, v12 = ptr b ∧ LocAt wx b kk ∧ Below wr.heap.size wr wx ∧ wr.heap.size ≤ b)
        case first =>
          go_region_with (go_at_call 17; (with_reducible refine (kind17 kk hk0 hk4 _).mono ?_); rintro e w3 ⟨rfl, rfl⟩)
          all_goals (
            go_wp2_with fail
            go_meet
            have r4 := H4.out.2.lt
            refine ⟨rfl, w4.heap.size, rfl, ⟨_, _, wr.heap.size, m, RowAt.new w4 _ _, hk0, hk4, hm2, H4.out.2.alloc _⟩, H4.out.1.alloc (by omega) _, z4⟩)
        case rest =>
          obtain ⟨rfl, b, rfl, hl, hbx, hbb⟩ := hcut
          have e0' := (HS.out.loc.below hbx lL).cell hlt
          have f2' := (HS.out.loc.below hbx lL).frozen k
          have lL' := (HS.out.loc.below hbx lL).lt
          simp only [Nat.lt_irrefl, if_false] at e0'
          have HX := Lib.hid (And.intro hl (And.intro hbx hbb))
          have ybx := later hy' hbx
          clear hl hbx hbb g0 g1 f0 f1 e0 f2 lL hx' hy' lG hv hrun' H4 z4
          unfold ptr
          go_upto_region 11 with fail
          have B5 : Below w.heap.size w (wc.setCell ⟨Lr, k, none⟩ (.pointer (some ⟨b, 0, none⟩))) := (HB.out.trans (HX.out.2.1.mono zr)).setCell HGL.out.2 _
          obtain ⟨gcs, gr, _⟩ := HS.out.stm.below HX.out.2.1 HS.out.stm.lt
          obtain ⟨lcs, lr, _⟩ := HS.out.loc.below HX.out.2.1 HS.out.loc.lt
          have G5 := (HS.out.stm.below HX.out.2.1 HS.out.stm.lt).set_other (row_ne gr lr (by decide)) k (.pointer (some ⟨b, 0, none⟩))
          clear gr lr
          have hend := fun w3 b3 => SB.stepL (w3 := w3) HS.out hlt HX.out.2.1 HX.out.2.2 zr HX.out.1 b3
          have HEND := Lib.hid hend
          have y5 := later HY.out B5
          rw [HZ.out.2] at y5
          clear hend
          unfold ptr at HEND
          generalize wc.setCell ⟨Lr, k, none⟩ (.pointer (some ⟨b, 0, none⟩)) = W5 at B5 G5 y5 HEND ⊢
          clear e0' f2' lL' ybx
          go_wp2_with fail
          refine (local18 sk b W5).mono ?_
          rintro e w3 ⟨rfl, h3⟩
          have s3 := G5.below h3 G5.lt
          have g0 := s3.cell0 hlt (by decide)
          have g1 := s3.cell (j := 1) hlt (by decide)
          have f0 := s3.frozen (k * 2)
          have f1 := s3.frozen (k * 2 + 1)
          have lG := s3.lt
          simp only [Nat.lt_irrefl, if_false, zz, if_true, show ¬ (1 : Nat) = 0 from by decide] at g0 g1
          have H3 := Lib.hid (And.intro h3 B5)
          have z5 := B5.size
          clear h3 s3 B5 y5 G5
          unfold ptr
          go_wp2_with fail
          go_roundw
          case rel =>
            refine ⟨k + 1, (fun i => if i = k then some b else lb i), eb, (fun i => if i = k then kk else kd i), by omega, by go_num, ?_, ?_⟩
            · have := HEND.out _ H3.out.1
              rw [HZ.out.2] at this
              exact this
            · exact ((H3.out.2.trans (H3.out.1.mono z5)).setCell HGL.out.1 _).setCell HGL.out.1 _
          case measure => simp [intOf]; omega
    · obtain rfl : k = n := by omega
      clear hlt
      go_wp2_with fail
      go_ret2
      exact ⟨G, Lr, lb, eb, kd, rfl, HS.out, HB.out⟩

end Go.Proofs.YtkncfhhiookgdaaDoor
