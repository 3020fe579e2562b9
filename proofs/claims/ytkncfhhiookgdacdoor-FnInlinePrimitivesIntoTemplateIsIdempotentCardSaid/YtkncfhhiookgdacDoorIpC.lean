import Derived.Test.YtkncfhhiookgdacDoorKit
import Derived.Test.YtkncfhhiookgdacDoorIpB
import Derived.Test.YtkncfhhiookgdacDoorAs
import Derived.Deep.RegionLaw
import Derived.Deep.AppendLies
namespace Go.Proofs.YtkncfhhiookgdacDoor
open Go.ChangeShapes Go.WideShapes Go.ChangeAt Go.RowKit
set_option linter.unusedVariables false
set_option maxRecDepth 100000
set_option maxHeartbeats 2000000

open Go.Extern
def K4 (w w' : World) : Prop := ∀ g es t, RowAt w g es t → (t = 51 ∨ t = 59 ∨ t = 53 ∨ t = 46) → RowAt w' g es t
theorem Parts.moved4 {w w' : World} {b0 pr N n M : Nat} {D T : Nat → Value} {S : Nat → Bool} (h : Parts w b0 pr N n D T S M) (hk : K16 w w') (ho : K4 w w') : Parts w' b0 pr N n D T S M := by
  refine ⟨?_, h.le, h.base, fun i hi => ?_, fun i hi => ?_⟩
  · obtain ⟨cs, r, e⟩ := h.row
    exact ⟨cs, ho _ _ _ r (.inr (.inr (.inl rfl))), e⟩
  · rcases h.dat i hi with ⟨e, a, v, n, x1, x2, x3, x4, h1, h2, h3, h4, h5⟩ | ⟨e, q, a, b, x, y, z, h1, h2, h3, h4⟩
    · exact .inl ⟨e, a, v, n, x1, x2, x3, x4, h1, h2, ho _ _ _ h3 (.inl rfl), h4.moved hk, h5⟩
    · exact .inr ⟨e, q, a, b, x, y, z, h1, h2, ho _ _ _ h3 (.inr (.inl rfl)), h4⟩
  · obtain ⟨l, h1, h2⟩ := h.tail i hi
    exact ⟨l, h1.moved hk, h2⟩
theorem setRes {W : World} {res : Nat} {es : Array Value} (r : RowAt W res es 35) (x y : Value) (o : Obj) :
    K16 W (((W.setCell ⟨res, 0, none⟩ x).setCell ⟨res, 1, none⟩ y).alloc o) ∧ K4 W (((W.setCell ⟨res, 0, none⟩ x).setCell ⟨res, 1, none⟩ y).alloc o) ∧
    (∀ B, B ≤ res → Below B W (((W.setCell ⟨res, 0, none⟩ x).setCell ⟨res, 1, none⟩ y).alloc o)) ∧ ∀ g es t, g ≠ res → RowAt W g es t → RowAt (((W.setCell ⟨res, 0, none⟩ x).setCell ⟨res, 1, none⟩ y).alloc o) g es t := by
  have q : ∀ g es t, g ≠ res → RowAt W g es t → RowAt (((W.setCell ⟨res, 0, none⟩ x).setCell ⟨res, 1, none⟩ y).alloc o) g es t := fun g es t hg h => ((h.set_other hg 0 x).set_other hg 1 y).alloc o
  refine ⟨fun g es h u => ⟨es, q _ _ _ (row_ne h r (by decide)) h, rfl, u⟩, fun g es t h ht => q _ _ _ (row_ne h r (by rcases ht with rfl | rfl | rfl | rfl <;> decide)) h, fun B hB => (((Below.refl B W).setCell hB x).setCell hB y).alloc (by have := r.lt; simp; omega) o, q⟩
/-- What the inliner answers: a string expression, or a template whose parts are identifiers alone. -/
def StrE (w' : World) (e : Ending) (loc : Int) : Prop := ∃ s o n c y, e = .returned (.agg #[.iface 49 (ptr s), .int .i32 loc]) ∧ RowAt w' s #[.slice o n c, .int .i32 0, .bool y, .bool false, .bool false] 51
def TmpE (w w' : World) (b0 n M : Nat) (hd : Value) (D T : Nat → Value) (S : Nat → Bool) (e : Ending) (loc hl : Int) : Prop :=
  ∃ t2 pr2 m h l D2 T2, e = .returned (.agg #[.iface 28 (ptr t2), .int .i32 loc]) ∧ RowAt w' t2 #[.nilIface, .int .i32 0, .string ByteArray.empty, h, .slice (some ⟨pr2, 0, none⟩) m n, .int .i32 hl, .int .i32 0, .bool false, .bool false] 46 ∧
    UW w' b0 h l ∧ l ≤ (2 * n + 1) * M ∧ Parts w' b0 pr2 n m D2 T2 (fun _ => false) ((2 * n + 1) * M) ∧ 1 ≤ m ∧
    ((∀ i, i < n → S i = false) → m = n ∧ h = hd ∧ (∀ i, i < n → D2 i = D i ∧ T2 i = T i) ∧ Below w.heap.size w w')
def Inl (w w' : World) (b0 n M : Nat) (hd : Value) (D T : Nat → Value) (S : Nat → Bool) (e : Ending) (loc hl : Int) : Prop :=
  Below b0 w w' ∧ K16 w w' ∧ KO w w' ∧ ((StrE w' e loc ∧ ((∀ i, i < n → S i = false) → n = 0)) ∨ TmpE w w' b0 n M hd D T S e loc hl)
set_option maxHeartbeats 8000000 in
theorem inline8 (loc : Int) (t pr N n b0 M : Nat) (hd : Value) (lh : Nat) (D T : Nat → Value) (S : Nat → Bool) (x1 x2 x6 x7 x8 : Value) (hl : Int) (w : World)
    (hT : RowAt w t #[.nilIface, x1, x2, hd, .slice (some ⟨pr, 0, none⟩) n N, .int .i32 hl, x6, x7, x8] 46) (hh : UW w b0 hd lh) (hlh : lh ≤ M) (hP : Parts w b0 pr N n D T S M) (hn : n ≤ 4096) (hb : b0 ≤ w.heap.size) (hM : (∀ i, i < n → S i = false) ∨ M ≤ 2097152) :
    Calls Tryd.prog 8 #[.agg #[.int .i32 loc], ptr t] w fun e w' => Inl w w' b0 n M hd D T S e loc hl := by
  obtain ⟨i0, hi, hz0, hz1, hz2⟩ := info_parts info53
  have HT := Lib.hid hT
  have HH := Lib.hid (And.intro hh hlh)
  have HP := Lib.hid hP
  have HM := Lib.hid hM
  have t0 := hT.cellv (j := 0) (v := .nilIface) rfl
  have t3 := hT.cellv (j := 3) (v := hd) rfl
  have t4 := hT.cellv (j := 4) (v := .slice (some ⟨pr, 0, none⟩) n N) rfl
  have lt := hT.lt
  have Nle := hP.le
  clear hT hh hlh hP hM
  unfold ptr
  go_enter Tryd.func8, Tryd.ntmps8
  go_wp2_with (at_make; refine wpList_make_own _ rfl _ _ 44 rfl (w.heap.size + 2) 53 i0 _ 5 Tryd.underlying44 hi hz0 hz1 .i64 .i64 _ n rfl rfl rfl (by rw [hz2]; omega) (by unfold maxLen; omega) (by simp) ?_)
  intro w1 hown hgrow
  obtain ⟨cs0, hr0, hs0, _⟩ := RowAt.of_owns hown
  have Wl := (RowAt.new w #[.int .i32 loc] 33).alloc (.cells #[.nilIface, .int .i32 0] 35)
  have Wr := RowAt.new (w.alloc (.cells #[.int .i32 loc] 33)) #[.nilIface, .int .i32 0] 35
  have b2 : Below (w.heap.size + 1 + 1) ((w.alloc (.cells #[.int .i32 loc] 33)).alloc (.cells #[.nilIface, .int .i32 0] 35)) w1 := (Below.refl _ _).grown hgrow (by simp) (fun k hk => by cases hk)
  have b1 : Below w.heap.size w w1 := (((Below.refl w.heap.size w).alloc (Nat.le_refl _) (.cells #[.int .i32 loc] 33)).alloc (by simp) (.cells #[.nilIface, .int .i32 0] 35)).trans (b2.mono (by omega))
  have rl := Wl.below b2 (by omega)
  have rr := Wr.below b2 (by simp)
  rw [show (w.alloc (.cells #[.int .i32 loc] 33)).heap.size = w.heap.size + 1 from by simp] at rr
  obtain ⟨lr, hlr⟩ : ∃ lr, lr = w.heap.size := ⟨_, rfl⟩
  obtain ⟨res, hres⟩ : ∃ res, res = w.heap.size + 1 := ⟨_, rfl⟩
  obtain ⟨pr2, hpr⟩ : ∃ pr2, pr2 = w.heap.size + 1 + 1 := ⟨_, rfl⟩
  rw [← hlr] at rl
  rw [← hres] at rr
  rw [← hpr] at hr0
  have L0 : Hid (LP w w1 b0 pr2 n 0 0 M hd (fun _ => .nilIface) (fun _ => .nilIface) res lr loc ∧ Below w.heap.size w w1 ∧ RowAt w1 pr2 cs0 53) := Lib.hid ⟨⟨⟨lh, HH.out.1.moved (K16.of_below b1), by have := HH.out.2; omega⟩, ⟨⟨cs0, hr0, hs0, fun i hi => by omega⟩, Nat.zero_le _, by omega, fun i hi => by omega, fun i hi => by omega⟩, K16.of_below b1, KO.of_below b1, b1.mono hb, rr, rl, by omega⟩, b1, hr0⟩
  have t4' := later t4 b1
  have lt' : t < w1.heap.size := Nat.lt_of_lt_of_le lt b1.size
  have hpw : Hid (w.heap.size ≤ pr2) := Lib.hid (by omega)
  have hrw : Hid (w.heap.size ≤ res) := Lib.hid (by omega)
  rw [← hpr, ← hres, ← hlr]
  clear t0 t3 t4 lt hown hgrow hr0 hs0 b1 b2 rl rr Wl Wr hi hz0 hz1 hz2 hlr hres hpr
  go_wp2_with fail
  go_loopw [41, 5, 6, 8, 9, 10, 11, 12, 13, 14, 15] (fun v41 v5 v6 _ _ _ _ _ _ _ _ wr => ∃ (k k2 : Nat) (h : Value) (D2 T2 : Nat → Value), k ≤ n ∧ k2 ≤ k ∧ v41 = .int .i64 k ∧ h = v5 ∧ v6 = .slice (some ⟨pr2, 0, none⟩) k2 n ∧ LP w wr b0 pr2 n k k2 M h D2 T2 res lr loc ∧ ((∀ i, i < n → S i = false) → Same w n k k2 h hd D T D2 T2 wr)) (fun v41 _ _ _ _ _ _ _ _ _ _ _ => n - (intOf v41).toNat)
  case atStart => exact ⟨0, 0, hd, _, _, Nat.zero_le _, Nat.le_refl _, rfl, rfl, rfl, L0.out.1, fun _ => ⟨rfl, rfl, fun i hi => by omega, L0.out.2.1⟩⟩
  case round =>
    obtain ⟨k, k2, h, D2, T2, hk, hk2, rfl, rfl, rfl, hL, hSame⟩ := hrel
    have HL := Lib.hid hL
    have HSame := Lib.hid hSame
    clear hL hSame L0
    by_cases hlt : k < n
    · have hPk := HP.out.moved HL.out.k16 HL.out.ko (Nat.le_refl _)
      have p0 := hPk.row.cell0 hlt
      have p1 := hPk.row.cell hlt (j := 1) (by decide)
      have p2 := hPk.row.cell hlt (j := 2) (by decide)
      have p3 := hPk.row.cell hlt (j := 3) (by decide)
      have p4 := hPk.row.cell hlt (j := 4) (by decide)
      have lp := hPk.row.lt
      simp only [pv, show ¬ (1 : Nat) = 0 from by decide, show ¬ (2 : Nat) = 0 from by decide, show ¬ (2 : Nat) = 1 from by decide, show ¬ (3 : Nat) = 0 from by decide, show ¬ (3 : Nat) = 1 from by decide, show ¬ (3 : Nat) = 2 from by decide, show ¬ (4 : Nat) = 0 from by decide, show ¬ (4 : Nat) = 1 from by decide, show ¬ (4 : Nat) = 2 from by decide, show ¬ (4 : Nat) = 3 from by decide, if_true, if_false] at p1 p2 p3 p4
      obtain ⟨lt2, htu, htl⟩ := hPk.tail k hlt
      obtain ⟨ot, ct, et⟩ := htu.sl
      rw [et] at p3 htu
      obtain ⟨lh2, hhu, hhl⟩ := HL.out.hd
      obtain ⟨oh, ch, rfl⟩ := hhu.sl
      have HPk := Lib.hid hPk
      have HU := Lib.hid (And.intro et (And.intro htu (And.intro htl (And.intro hhu hhl))))
      clear et htu htl hhu hhl
      rcases hPk.dat k hlt with ⟨hs, s, v, m, y1, y2, y3, y4, hd1, hd2, hd3, hd4, hd5⟩ | ⟨hs, q, a, b, x, y, z, hd1, hd2, hd3, hd4⟩
      · obtain ⟨os, cs, rfl⟩ := hd4.sl
        rw [hd1] at p0
        have q0 := hd3.cellv (j := 0) (v := .slice os m cs) rfl
        have lq := hd3.lt
        have HD := Lib.hid (And.intro hs (And.intro hd1 (And.intro hd2 (And.intro hd3 (And.intro hd4 hd5)))))
        unfold ptr at p0
        clear hPk hs hd1 hd2 hd3 hd4 hd5
        go_wp2_with fail
        have W1 := RowAt.new wr #[.iface 49 (.pointer (some ⟨s, 0, none⟩)), .int .i32 0, .string ByteArray.empty, .slice ot lt2 ct, .int .i32 0] 53
        refine (tostr13 49 s _ (.inl rfl)).mono ?_
        rintro e w2 ⟨rfl, rfl⟩
        have bW : Below wr.heap.size wr (wr.alloc (.cells #[.iface 49 (.pointer (some ⟨s, 0, none⟩)), .int .i32 0, .string ByteArray.empty, .slice ot lt2 ct, .int .i32 0] 53)) := (Below.refl _ _).alloc (Nat.le_refl _) _
        obtain ⟨pt, hpt⟩ : ∃ pt, pt = wr.heap.size := ⟨_, rfl⟩
        have lpt : wr.heap.size ≤ pt := by omega
        have zb : b0 ≤ wr.heap.size := Nat.le_trans hb HL.out.below.size
        rw [← hpt] at W1 ⊢
        generalize wr.alloc (.cells #[.iface 49 (.pointer (some ⟨s, 0, none⟩)), .int .i32 0, .string ByteArray.empty, .slice ot lt2 ct, .int .i32 0] 53) = W at bW W1 ⊢
        have HLW := Lib.hid (HL.out.mv (K16.of_below bW) (KO.of_below bW) (bW.mono zb))
        have RS := HD.out.2.2.2.1.below bW HD.out.2.2.2.1.lt
        have q0' := RS.cellv (j := 0) (v := .slice os m cs) rfl
        have lq' := RS.lt
        have t0 := W1.cellv (j := 0) (v := .iface 49 (.pointer (some ⟨s, 0, none⟩))) rfl
        have t3 := W1.cellv (j := 3) (v := .slice ot lt2 ct) rfl
        have lt3 := W1.lt
        have zW := bW.size
        have HW := Lib.hid (And.intro bW (And.intro W1 RS))
        have hM' : M ≤ 2097152 := by
          rcases HM.out with h | h
          · have := h k hlt
            rw [HD.out.1] at this
            cases this
          · exact h
        have HM' := Lib.hid hM'
        clear bW W1 RS hpt q0 lq p0 p1 p2 p3 p4 lp hM'
        by_cases hk0 : k2 = 0
        · subst hk0
          obtain ⟨v1, w3, run1, u1, k1, o1, b1⟩ := app b0 lh2 m (.slice oh lh2 ch) (.slice os m cs) W.drew (HU.out.2.2.2.1.moved (K16.of_below HW.out.1.drew)) (HD.out.2.2.2.2.1.moved (K16.of_below HW.out.1.drew)) (by have := bound_big k M lh2 m 0 HU.out.2.2.2.2 HD.out.2.2.2.2.2 (Nat.zero_le _) (by omega) HM'.out; omega) (by show b0 ≤ W.heap.size; omega)
          obtain ⟨oo1, cc1, rfl⟩ := u1.sl
          obtain ⟨v2, w4, run2, u2, k2, o2, b2⟩ := app b0 (lh2 + m) lt2 (.slice oo1 (lh2 + m) cc1) (.slice ot lt2 ct) w3 u1 (HU.out.2.1.moved ((K16.of_below HW.out.1.drew).trans k1)) (by have := bound_big k M lh2 m lt2 HU.out.2.2.2.2 HD.out.2.2.2.2.2 HU.out.2.2.1 (by omega) HM'.out; omega) (Nat.le_trans (Nat.le_trans zb zW) b1.size)
          obtain ⟨oo2, cc2, rfl⟩ := u2.sl
          have HR1 := Lib.hid run1
          have HR2 := Lib.hid run2
          have Rs3 := o1 _ _ _ (show RowAt W.drew s _ 51 from HW.out.2.2) (by decide)
          have Rt3 := o1 _ _ _ (show RowAt W.drew pt _ 53 from HW.out.2.1) (by decide)
          have x0 := Rs3.cellv (j := 0) (v := .slice os m cs) rfl
          have x1' := Rs3.lt
          have x2' := Rt3.cellv (j := 3) (v := .slice ot lt2 ct) rfl
          have x3' := Rt3.lt
          have HR := Lib.hid (And.intro u2 (And.intro (K16.trans (b := w3) k1 k2) (And.intro (KO.trans (b := w3) o1 o2) (Below.trans (B := b0) (b := w3) b1 b2))))
          clear run1 run2 u1 u2 k1 k2 o1 o2 b1 b2 Rs3 Rt3
          go_upto_region 17 with fail
          go_region_law (first | (refine step_run (by rfl) (.tmp 84) (.tmp 88) (by rfl) (by rfl) _ _ _ _ (by rfl) (by rfl) HR1.out ?_) | (refine step_run (by rfl) (.tmp 89) (.tmp 91) (by rfl) (by rfl) _ _ _ _ (by rfl) (by rfl) HR2.out ?_))
          all_goals (
            go_wp2_with fail
            go_roundw
            case rel => exact ⟨k + 1, 0, .slice oo2 (lh2 + m + lt2) cc2, D2, T2, by omega, by omega, by go_num, rfl, rfl, (HLW.out.mv (W := w4) HR.out.2.1 HR.out.2.2.1 ((Below.refl b0 W).drew.trans HR.out.2.2.2)).next HR.out.1 (bound_le k M _ _ _ HU.out.2.2.2.2 HD.out.2.2.2.2.2 HU.out.2.2.1), fun hS => by have := hS k hlt; rw [HD.out.1] at this; cases this⟩
            case measure => simp [intOf]; omega)
        · obtain ⟨j, rfl⟩ : ∃ j, k2 = j + 1 := ⟨k2 - 1, by omega⟩
          clear hk0
          obtain ⟨l5, u5, hl5⟩ := HLW.out.parts.tail j (by omega)
          obtain ⟨o5, c5, e5⟩ := u5.sl
          have pc := HLW.out.parts.row.cell (i := j) (j := 3) (by omega) (by decide)
          have pc2 : W.cell? ⟨pr2, j * 5 + 3, none⟩ = some (T2 j) := pc
          rw [e5] at pc2 u5
          have lpr := HLW.out.parts.row.lt
          have jn : j + 1 ≤ n := HLW.out.parts.le
          obtain ⟨v1, w3, run1, u1, k1, o1, b1⟩ := app b0 l5 m (.slice o5 l5 c5) (.slice os m cs) W.drew u5 (HD.out.2.2.2.2.1.moved (K16.of_below HW.out.1.drew)) (by have := bound_big k M l5 m 0 hl5 HD.out.2.2.2.2.2 (Nat.zero_le _) (by omega) HM'.out; omega) (by show b0 ≤ W.heap.size; omega)
          obtain ⟨oo1, cc1, rfl⟩ := u1.sl
          obtain ⟨v2, w4, run2, u2, k2, o2, b2⟩ := app b0 (l5 + m) lt2 (.slice oo1 (l5 + m) cc1) (.slice ot lt2 ct) w3 u1 (HU.out.2.1.moved ((K16.of_below HW.out.1.drew).trans k1)) (by have := bound_big k M l5 m lt2 hl5 HD.out.2.2.2.2.2 HU.out.2.2.1 (by omega) HM'.out; omega) (Nat.le_trans (Nat.le_trans zb zW) b1.size)
          obtain ⟨oo2, cc2, rfl⟩ := u2.sl
          have HR1 := Lib.hid run1
          have HR2 := Lib.hid run2
          have Rs3 := o1 _ _ _ (show RowAt W.drew s _ 51 from HW.out.2.2) (by decide)
          have Rt3 := o1 _ _ _ (show RowAt W.drew pt _ 53 from HW.out.2.1) (by decide)
          have x0 := Rs3.cellv (j := 0) (v := .slice os m cs) rfl
          have x1' := Rs3.lt
          have x2' := Rt3.cellv (j := 3) (v := .slice ot lt2 ct) rfl
          have x3' := Rt3.lt
          have HL4 := Lib.hid (HLW.out.mv (W := w4) (K16.trans (b := w3) k1 k2) (KO.trans (b := w3) o1 o2) ((Below.refl b0 W).drew.trans (b1.trans b2)))
          have pc4 := HL4.out.parts.row.cell (i := j) (j := 3) (by omega) (by decide)
          have pc5 : w4.cell? ⟨pr2, j * 5 + 3, none⟩ = some (T2 j) := pc4
          rw [e5] at pc5
          have lp4 := HL4.out.parts.row.lt
          have fr4 : w4.frozen? ⟨pr2, j * 5 + 3, none⟩ = false := by
            obtain ⟨_, r, _⟩ := HL4.out.parts.row
            exact r.frozen _
          have HR := Lib.hid (And.intro u2 hl5)
          clear run1 run2 u1 u2 k1 k2 o1 o2 b1 b2 Rs3 Rt3 pc pc4 u5 e5 hl5
          go_upto_region 19 with fail
          go_region_law (first | (refine step_run (by rfl) (.tmp 102) (.tmp 106) (by rfl) (by rfl) _ _ _ _ (by rfl) (by rfl) HR1.out ?_) | (refine step_run (by rfl) (.tmp 107) (.tmp 109) (by rfl) (by rfl) _ _ _ _ (by rfl) (by rfl) HR2.out ?_))
          all_goals (
            go_wp2_with fail
            go_roundw
            case rel => exact ⟨k + 1, j + 1, .slice oh lh2 ch, D2, _, by omega, by omega, by go_num, rfl, rfl, HL4.out.setT (by omega) HR.out.1 (bound_le k M _ _ _ HR.out.2 HD.out.2.2.2.2.2 HU.out.2.2.1), fun hS => by have := hS k hlt; rw [HD.out.1] at this; cases this⟩
            case measure => simp [intOf]; omega)
      · rw [hd1] at p0
        have HD := Lib.hid (And.intro hs (And.intro hd1 (And.intro hd2 (And.intro hd3 hd4))))
        unfold ptr at p0
        clear hPk hs hd1 hd2 hd3 hd4
        have lpr := HL.out.parts.row.lt
        go_wp2_with fail
        have W1 := RowAt.new wr #[.iface 54 (.pointer (some ⟨q, 0, none⟩)), .int .i32 0, .string ByteArray.empty, .slice ot lt2 ct, .int .i32 0] 53
        refine (tostr13 54 q _ (.inr rfl)).mono ?_
        rintro e w2 ⟨rfl, rfl⟩
        have bW : Below wr.heap.size wr (wr.alloc (.cells #[.iface 54 (.pointer (some ⟨q, 0, none⟩)), .int .i32 0, .string ByteArray.empty, .slice ot lt2 ct, .int .i32 0] 53)) := (Below.refl _ _).alloc (Nat.le_refl _) _
        obtain ⟨pt, hpt⟩ : ∃ pt, pt = wr.heap.size := ⟨_, rfl⟩
        have zb : b0 ≤ wr.heap.size := Nat.le_trans hb HL.out.below.size
        rw [← hpt] at W1 ⊢
        generalize wr.alloc (.cells #[.iface 54 (.pointer (some ⟨q, 0, none⟩)), .int .i32 0, .string ByteArray.empty, .slice ot lt2 ct, .int .i32 0] 53) = W at bW W1 ⊢
        have HLW := Lib.hid (HL.out.mv (K16.of_below bW) (KO.of_below bW) (bW.mono zb))
        have t0 := W1.cellv (j := 0) (v := .iface 54 (.pointer (some ⟨q, 0, none⟩))) rfl
        have t1 := W1.cellv (j := 1) (v := .int .i32 0) rfl
        have t2 := W1.cellv (j := 2) (v := .string ByteArray.empty) rfl
        have t3 := W1.cellv (j := 3) (v := .slice ot lt2 ct) rfl
        have t4 := W1.cellv (j := 4) (v := .int .i32 0) rfl
        have lt3 := W1.lt
        have zW := bW.size
        have HW := Lib.hid (And.intro bW W1)
        clear bW W1 hpt p0 p1 p2 p3 p4 lp
        have kn : k2 < n := by omega
        obtain ⟨i, hi, hz, hsz, hby⟩ := info_parts info53
        have bA : Below W.heap.size W (W.alloc (.cells #[.iface 54 (.pointer (some ⟨q, 0, none⟩)), .int .i32 0, .string ByteArray.empty, .slice ot lt2 ct, .int .i32 0] 53)) := (Below.refl _ _).alloc (Nat.le_refl _) _
        have RA := RowAt.new W #[.iface 54 (.pointer (some ⟨q, 0, none⟩)), .int .i32 0, .string ByteArray.empty, .slice ot lt2 ct, .int .i32 0] 53
        have LA := HLW.out.mv (K16.of_below bA) (KO.of_below bA) (bA.mono (Nat.le_trans zb zW))
        have PQ := (HPk.out.dat k hlt).moved (K16.of_below (HW.out.1.trans (bA.mono zW))) (KO.of_below (HW.out.1.trans (bA.mono zW))).kp (Nat.le_refl M)
        rw [HD.out.2.1, HD.out.1] at PQ
        have src : Src Tryd.prog 5 44 (.slice (some ⟨W.heap.size, 0, none⟩) 1 1) 1 (cells5 (.iface 54 (ptr q)) (.slice ot lt2 ct)) (W.alloc (.cells #[.iface 54 (.pointer (some ⟨q, 0, none⟩)), .int .i32 0, .string ByteArray.empty, .slice ot lt2 ct, .int .i32 0] 53)) :=
          Src.ofSlice _ Tryd.underlying44 _ 1 1 _ rfl (World.news_of_block RA) (fun u hu => by
            simp only [cells5, List.mem_cons, List.not_mem_nil, or_false] at hu
            rcases hu with rfl | rfl | rfl | rfl | rfl <;> rfl)
        rw [← hsz] at src
        obtain ⟨pcs, pr0, ps0, _⟩ := LA.parts.row
        have hr := run_append_room_src (P := Tryd.prog) _ 44 44 44 53 i Tryd.underlying44 hi pr2 0 k2 n _ 1 _ src (by omega) (fun j hj => by
          have : j < 5 := hj
          have h5 : 0 + k2 * i.size + j < pcs.size := by rw [hsz]; omega
          rw [pr0.cell]
          simp only [h5, Array.getElem?_eq_getElem, Option.isSome_some]) (fun j hj => pr0.frozen _)
        obtain ⟨LN, LB⟩ := LA.push kn PQ (HU.out.2.1.moved (K16.of_below (HW.out.1.trans (bA.mono zW)))) HU.out.2.2.1
        rw [hsz, Nat.zero_add] at hr
        generalize (W.alloc (.cells #[.iface 54 (.pointer (some ⟨q, 0, none⟩)), .int .i32 0, .string ByteArray.empty, .slice ot lt2 ct, .int .i32 0] 53)).setCells pr2 (k2 * 5) (cells5 (.iface 54 (ptr q)) (.slice ot lt2 ct)) = W4 at hr LN LB
        have HRUN := Lib.hid hr
        have bx : Below wr.heap.size wr (W.alloc (.cells #[.iface 54 (.pointer (some ⟨q, 0, none⟩)), .int .i32 0, .string ByteArray.empty, .slice ot lt2 ct, .int .i32 0] 53)) := HW.out.1.trans (bA.mono zW)
        have HE := Lib.hid (And.intro LN (And.intro LB bx))
        clear hr LN LB src pr0 ps0 LA RA bA PQ hi hz hsz hby bx
        go_upto_region 20 with fail
        go_wp2_with (at_builtin; refine wpList_app _ rfl (.tmp 113) (.tmp 115) 44 rfl rfl (.slice (some ⟨pr2, 0, none⟩) k2 n) (.slice (some ⟨W.heap.size, 0, none⟩) 1 1) _ _ rfl rfl HRUN.out ?_)
        go_roundw
        case rel =>
          refine ⟨k + 1, k2 + 1, .slice oh lh2 ch, _, _, by omega, by omega, by go_num, rfl, rfl, HE.out.1, fun hS => ?_⟩
          obtain ⟨g1, g2, g3, g4⟩ := HSame.out hS
          subst g1
          refine ⟨rfl, g2, fun i hi => ?_, g4.trans ((HE.out.2.2.mono g4.size).trans (HE.out.2.1 _ hpw.out))⟩
          by_cases e : i = k2
          · subst e
            simp only [if_true]
            exact ⟨HD.out.2.1.symm, HU.out.1.symm⟩
          · simp only [e, if_false]
            exact g3 i (by omega)
        case measure => simp [intOf]; omega
    · obtain rfl : n = k := by omega
      clear hlt
      obtain ⟨lh2, hhu, hhl⟩ := HL.out.hd
      obtain ⟨oh, ch, rfl⟩ := hhu.sl
      have HU := Lib.hid (And.intro hhu hhl)
      clear hhu hhl
      have zb : b0 ≤ wr.heap.size := Nat.le_trans hb HL.out.below.size
      have c0 := HL.out.locr.cellv (j := 0) (v := .int .i32 loc) rfl
      have ll := HL.out.locr.lt
      have r0 := HL.out.resr.cellv (j := 0) (v := .nilIface) rfl
      have r1 := HL.out.resr.cellv (j := 1) (v := .int .i32 0) rfl
      have f0 := HL.out.resr.frozen 0
      have f1 := HL.out.resr.frozen 1
      have lres := HL.out.resr.lt
      have tt := HL.out.ko _ _ _ HT.out (by decide)
      have t5 := tt.cellv (j := 5) (v := .int .i32 hl) rfl
      have ltt := tt.lt
      have hne : res ≠ lr := row_ne HL.out.resr HL.out.locr (by decide)
      have hne2 : res ≠ t := row_ne HL.out.resr tt (by decide)
      clear tt
      by_cases hk0 : k2 = 0
      · subst hk0
        go_wp2_with fail
        obtain ⟨q1, q2, q3, q4⟩ := setRes HL.out.resr (.iface 49 (.pointer (some ⟨wr.heap.size, 0, none⟩))) (.int .i32 loc) (.cells #[.slice oh lh2 ch, .int .i32 0, .bool true, .bool false, .bool false] 51)
        have rn := RowAt.new ((wr.setCell ⟨res, 0, none⟩ (.iface 49 (.pointer (some ⟨wr.heap.size, 0, none⟩)))).setCell ⟨res, 1, none⟩ (.int .i32 loc)) #[.slice oh lh2 ch, .int .i32 0, .bool true, .bool false, .bool false] 51
        have rr := ((HL.out.resr.set 0 (.iface 49 (.pointer (some ⟨wr.heap.size, 0, none⟩)))).set 1 (.int .i32 loc)).alloc (.cells #[.slice oh lh2 ch, .int .i32 0, .bool true, .bool false, .bool false] 51)
        have e1 := rr.cellv (j := 0) (v := .iface 49 (.pointer (some ⟨wr.heap.size, 0, none⟩))) rfl
        have e2 := rr.cellv (j := 1) (v := .int .i32 loc) rfl
        have hsz : ((wr.setCell ⟨res, 0, none⟩ (.iface 49 (.pointer (some ⟨wr.heap.size, 0, none⟩)))).setCell ⟨res, 1, none⟩ (.int .i32 loc)).heap.size = wr.heap.size := by simp
        rw [hsz] at rn
        exact bodyPost_ret (v := .agg #[.iface 49 (.pointer (some ⟨wr.heap.size, 0, none⟩)), .int .i32 loc]) (by simp only [results, Tryd.results8]; simp [go_sem, e1, e2]) rfl
          ⟨HL.out.below.trans (q3 b0 (Nat.le_trans hb hrw.out)), HL.out.k16.trans q1, fun g es t h ht => q4 _ _ _ (by have := h.lt; have := hrw.out; omega) (HL.out.ko _ _ _ h ht), .inl ⟨⟨wr.heap.size, _, _, _, _, rfl, rn⟩, fun hS => (HSame.out hS).1.symm⟩⟩
      · obtain ⟨j, rfl⟩ : ∃ j, k2 = j + 1 := ⟨k2 - 1, by omega⟩
        clear hk0
        go_upto_region 24 with fail
        go_region_with fail
        all_goals (
          go_wp2_with fail
          obtain ⟨q1, q2, q3, q4⟩ := setRes HL.out.resr (.iface 28 (.pointer (some ⟨wr.heap.size, 0, none⟩))) (.int .i32 loc) (.cells #[.nilIface, .int .i32 0, .string ⟨#[]⟩, .slice oh lh2 ch, .slice (some ⟨pr2, 0, none⟩) (j + 1) n, .int .i32 hl, .int .i32 0, .bool false, .bool false] 46)
          have rn := RowAt.new ((wr.setCell ⟨res, 0, none⟩ (.iface 28 (.pointer (some ⟨wr.heap.size, 0, none⟩)))).setCell ⟨res, 1, none⟩ (.int .i32 loc)) #[.nilIface, .int .i32 0, .string ⟨#[]⟩, .slice oh lh2 ch, .slice (some ⟨pr2, 0, none⟩) (j + 1) n, .int .i32 hl, .int .i32 0, .bool false, .bool false] 46
          have rr := ((HL.out.resr.set 0 (.iface 28 (.pointer (some ⟨wr.heap.size, 0, none⟩)))).set 1 (.int .i32 loc)).alloc (.cells #[.nilIface, .int .i32 0, .string ⟨#[]⟩, .slice oh lh2 ch, .slice (some ⟨pr2, 0, none⟩) (j + 1) n, .int .i32 hl, .int .i32 0, .bool false, .bool false] 46)
          have e1 := rr.cellv (j := 0) (v := .iface 28 (.pointer (some ⟨wr.heap.size, 0, none⟩))) rfl
          have e2 := rr.cellv (j := 1) (v := .int .i32 loc) rfl
          have hsz : ((wr.setCell ⟨res, 0, none⟩ (.iface 28 (.pointer (some ⟨wr.heap.size, 0, none⟩)))).setCell ⟨res, 1, none⟩ (.int .i32 loc)).heap.size = wr.heap.size := by simp
          rw [hsz] at rn
          have bd : ∀ B, B ≤ res → Below B wr _ := fun B hB => (q3 B hB).drew
          refine bodyPost_ret (v := .agg #[.iface 28 (.pointer (some ⟨wr.heap.size, 0, none⟩)), .int .i32 loc]) (by simp only [results, Tryd.results8]; simp [go_sem, e1, e2]) rfl
            ⟨HL.out.below.trans (bd b0 (Nat.le_trans hb hrw.out)), HL.out.k16.trans q1, fun g es t h ht => q4 _ _ _ (by have := h.lt; have := hrw.out; omega) (HL.out.ko _ _ _ h ht), .inr ⟨wr.heap.size, pr2, j + 1, .slice oh lh2 ch, lh2, D2, T2, rfl, rn, HU.out.1.moved q1, HU.out.2, HL.out.parts.moved4 q1 q2, by omega, fun hS => ?_⟩⟩
          obtain ⟨g1, g2, g3, g4⟩ := HSame.out hS
          exact ⟨g1, g2, g3, g4.trans (bd _ hrw.out)⟩)

end Go.Proofs.YtkncfhhiookgdacDoor
