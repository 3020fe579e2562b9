import Derived.Test.YtkncfhhiookgdacDoorKit
import Derived.Test.YtkncfhhiookgdacDoorAs
import Derived.Test.YtkncfhhiookgdacDoorIpL
import Derived.Test.YtkncfhhiookgdacDoorIpC
import Derived.Deep.RegionLaw
import Derived.BigQuiet
namespace Go.Proofs.YtkncfhhiookgdacDoor
open Go.ChangeShapes Go.WideShapes Go.ChangeAt Go.RowKit
set_option linter.unusedVariables false
set_option maxRecDepth 100000
set_option maxHeartbeats 2000000

open Go.Extern
theorem info4 : (Tryd.prog.info? 4).map (fun i => (i.zero, i.size, i.bytes)) = some (some (.bool false), 1, 1) := by kernel_rfl
theorem refs_drewN {w : World} {n : Nat} {D : Nat → Value} {q : Nat → Nat} {r : Nat → Int} (h : Refs w n D q r) (k : Nat) : Refs (w.drewN k) n D q r := fun i hi => h i hi
theorem sameU_drewN {w : World} {a b : Option Addr} {n : Nat} (h : SameU w a b n) (k : Nat) : SameU (w.drewN k) a b n := fun i hi => h i hi
theorem quiet2 {P : Program} {f : FuncId} {args : Array Value} {w : World} {a n : Nat} {v : Value} (h : Calls P f args (w.drewN (a + n)) fun e w' => e = .returned v ∧ ∃ m, w' = (w.drewN (a + n)).drewN m) :
    Calls P f args (w.drewN (a + n)) fun e w'' => e = .returned v ∧ ∃ m, w'' = w.drewN (a + m) := h.mono fun _ _ ⟨he, m, hm⟩ => ⟨he, n + m, by rw [hm, World.drewN_drewN, Nat.add_assoc]⟩
set_option maxHeartbeats 8000000 in
theorem main (a0 : Option Addr) (len0 cap0 : Nat) (a1 : Option Addr) (len1 cap1 : Nat) (z1 : Nat → Bool) (a2 : Option Addr) (len2 cap2 : Nat) (A2 : Nat → Option Addr) (L2 C2 : Nat → Nat) (z2 : Nat → List Int) (a3 : Option Addr) (len3 cap3 : Nat) (A3 : Nat → Option Addr) (L3 C3 : Nat → Nat) (z3 : Nat → List Int) (loc hl : Int) (w : World)
    (s0 : Sl16 w a0 len0 cap0) (w1 : IsBools w a1 len1 cap1 z1) (w2 : IsRows .u16 w a2 len2 cap2 A2 L2 C2 z2) (w3 : IsRows .u16 w a3 len3 cap3 A3 L3 C3 z3) (h0 : len0 ≤ 262144) (h1 : len1 ≤ 4096) (h2 : len2 ≤ 4096) (h3 : len3 ≤ 4096) :
    Calls Tryd.prog 3 #[.slice a0 len0 cap0, .slice a1 len1 cap1, .slice a2 len2 cap2, .slice a3 len3 cap3, .int .i32 loc, .int .i32 hl] w fun e w' => e = .returned (.bool true) ∧ Below w.heap.size w w' := by
  obtain ⟨i0, hi, hz0, hz1, hz2⟩ := info_parts info4
  obtain ⟨i1, gi, gz0, gz1, gz2⟩ := info_parts info22
  have W0 := Lib.hid (And.intro s0 (And.intro w1 (And.intro w2 w3)))
  clear s0 w1 w2 w3
  go_enter Tryd.func3, Tryd.ntmps3
  go_wp2_with fail
  refine (zz4 _ _ _ _ _ _ _ _ _ _ _ _ A2 A3 L2 C2 L3 C3 _ _ _ (by omega) (by omega) (by omega) (by omega) (rowsCells W0.out.2.2.1) (rowsCells W0.out.2.2.2)).mono ?_
  rintro e w1 ⟨b, rfl, rfl⟩
  cases b
  · go_wp2_with fail
    go_ret
    exact ⟨rfl, Below.refl _ _⟩
  · go_wp2_with fail
    refine (nested5 a2 len2 cap2 A2 L2 C2 w h2 (rowsCells W0.out.2.2.1)).mono ?_
    rintro e w2 ⟨t1, rfl, rfl, ht0, ht1, hL2⟩
    have HL2 := Lib.hid hL2
    clear hL2
    go_wp2_with fail
    refine (nested5 a3 len3 cap3 A3 L3 C3 w h3 (rowsCells W0.out.2.2.2)).mono ?_
    rintro e w2 ⟨t2, rfl, rfl, hu0, hu1, hL3⟩
    have HL3 := Lib.hid hL3
    clear hL3
    by_cases hs : 1048576 < 2 * (len0 : Int) + len1 + t1 + t2
    · go_wp2_with fail
      go_ret
      exact ⟨rfl, Below.refl _ _⟩
    · have hL2' := HL2.out (by omega)
      have hL3' := HL3.out (by omega)
      have HLL := Lib.hid (And.intro hL2' hL3')
      clear hL2' hL3' HL2 HL3
      go_wp2_with (at_make; refine wpList_make_full _ rfl _ _ 23 rfl w.heap.size 4 i0 _ 1 Tryd.underlying23 hi hz0 hz1 .i64 .i64 _ _ len3 rfl rfl rfl rfl (by rw [hz2]; omega) (by unfold maxLen; omega) (Nat.le_refl _) ?_)
      intro w5 hown hgrow
      have b5 : Below w.heap.size w w5 := (Below.refl _ _).grown hgrow (Nat.le_refl _) (fun k hk => by cases hk)
      have l5 : Cells w5 w.heap.size 4 len3 (fun _ => .bool false) := by
        have h' : w5.ownsRow w.heap.size 4 1 (.slice (some ⟨w.heap.size, 0, none⟩) len3 len3) len3 (madeCells #[.bool false] (len3 * 1)).toList := by simpa using hown
        have := Cells.made h'
        rw [Nat.mul_one] at this
        exact this.congr fun i _ => by simp [Nat.mod_one]
      obtain ⟨RS, hRS⟩ : ∃ RS, RS = w.heap.size := ⟨_, rfl⟩
      rw [← hRS] at l5 ⊢
      have z5 := b5.size
      have H5 := Lib.hid (And.intro b5 (And.intro l5 (show w.heap.size ≤ RS by omega)))
      clear hown hgrow b5 l5 hRS
      go_wp2_with (at_make; refine wpList_make_full _ rfl _ _ 24 rfl w5.heap.size 22 i1 _ 1 Tryd.underlying24 gi gz0 gz1 .i64 .i64 _ _ len3 rfl rfl rfl rfl (by rw [gz2]; omega) (by unfold maxLen; omega) (Nat.le_refl _) ?_)
      intro w6 hown hgrow
      have b6 : Below w5.heap.size w5 w6 := (Below.refl _ _).grown hgrow (Nat.le_refl _) (fun k hk => by cases hk)
      have l6 : Cells w6 w5.heap.size 22 len3 (fun _ => .slice none 0 0) := by
        have h' : w6.ownsRow w5.heap.size 22 1 (.slice (some ⟨w5.heap.size, 0, none⟩) len3 len3) len3 (madeCells #[.slice none 0 0] (len3 * 1)).toList := by simpa using hown
        have := Cells.made h'
        rw [Nat.mul_one] at this
        exact this.congr fun i _ => by simp [Nat.mod_one]
      obtain ⟨RV, hRV⟩ : ∃ RV, RV = w5.heap.size := ⟨_, rfl⟩
      rw [← hRV] at l6 ⊢
      have z6 := b6.size
      have H6 := Lib.hid (And.intro (H5.out.1.trans (b6.mono z5)) (And.intro (H5.out.2.1.below b6 H5.out.2.1.lt) (And.intro l6 (And.intro H5.out.2.2 (show w.heap.size ≤ RV by omega)))))
      clear hown hgrow b6 l6 hRV H5
      go_wp2_with (at_make; refine wpList_make_full _ rfl _ _ 24 rfl w6.heap.size 22 i1 _ 1 Tryd.underlying24 gi gz0 gz1 .i64 .i64 _ _ len3 rfl rfl rfl rfl (by rw [gz2]; omega) (by unfold maxLen; omega) (Nat.le_refl _) ?_)
      intro w7 hown hgrow
      have b7 : Below w6.heap.size w6 w7 := (Below.refl _ _).grown hgrow (Nat.le_refl _) (fun k hk => by cases hk)
      have l7 : Cells w7 w6.heap.size 22 len3 (fun _ => .slice none 0 0) := by
        have h' : w7.ownsRow w6.heap.size 22 1 (.slice (some ⟨w6.heap.size, 0, none⟩) len3 len3) len3 (madeCells #[.slice none 0 0] (len3 * 1)).toList := by simpa using hown
        have := Cells.made h'
        rw [Nat.mul_one] at this
        exact this.congr fun i _ => by simp [Nat.mod_one]
      obtain ⟨RT, hRT⟩ : ∃ RT, RT = w6.heap.size := ⟨_, rfl⟩
      have hne : RV ≠ RT := by have := H6.out.2.2.1.lt; omega
      rw [← hRT] at l7 ⊢
      have H7 := Lib.hid (And.intro (H6.out.1.trans (b7.mono (Nat.le_trans z5 z6))) (And.intro (H6.out.2.1.below b7 H6.out.2.1.lt) (And.intro (H6.out.2.2.1.below b7 H6.out.2.2.1.lt) (And.intro l7 (And.intro H6.out.2.2.2.1 (And.intro H6.out.2.2.2.2 (And.intro (show w.heap.size ≤ RT by omega) hne)))))))
      clear hown hgrow b7 l7 hRT H6 hne
      go_wp2_with fail
      have L0 : L1 w w7 RS RV RT len3 0 0 0 (fun _ => false) (fun _ => .nilIface) (fun _ => .nilIface) := ⟨by simpa using H7.out.2.1, by simpa using H7.out.2.2.1, by simpa using H7.out.2.2.2.1, fun i hi => by omega, fun i hi => by omega, H7.out.1⟩
      have HL0 := Lib.hid L0
      have HH := Lib.hid H7.out.2.2.2.2
      clear L0 H7 z5 z6 hi hz0 hz1 hz2 gi gz0 gz1 gz2 i0 i1
      go_loopw [17] (fun v17 wr => ∃ (k : Nat) (S : Nat → Bool) (V T : Nat → Value), k ≤ len3 ∧ v17 = .int .i64 k ∧ L1 w wr RS RV RT len3 k k k S V T) (fun v17 _ => len3 - (intOf v17).toNat)
      case atStart => exact ⟨0, fun _ => false, fun _ => .nilIface, fun _ => .nilIface, Nat.zero_le _, rfl, HL0.out⟩
      case round =>
        obtain ⟨k, S, V, T, hk, rfl, L⟩ := hrel
        have HL := Lib.hid L
        have zr := L.below.size
        clear L HL0
        by_cases hlt : k < len3
        · have e0 := HL.out.cs.cell hlt
          have f0 := HL.out.cs.frozen k
          have lS := HL.out.cs.lt
          simp only [Nat.lt_irrefl, if_false] at e0
          obtain ⟨sk, hsk⟩ : ∃ sk : Bool, (k < len1 → ∃ x, a1 = some x ∧ wr.cell? (x.add k) = some (.bool sk)) ∧ (¬ k < len1 → sk = false) := by
            by_cases h : k < len1
            · rcases W0.out.2.1 with ⟨_, h2, _⟩ | ⟨x, h2, h3, h4, h5⟩
              · omega
              · exact ⟨z1 k, fun _ => ⟨x, h2, later (h5 k (by omega)) HL.out.below⟩, fun h' => absurd h h'⟩
            · exact ⟨false, fun h' => absurd h' h, fun _ => rfl⟩
          have HSK := Lib.hid hsk
          clear hsk
          go_upto_region 14 with fail
          obtain ⟨wo, rfl⟩ : ∃ wo : World, wo = wr := ⟨_, rfl⟩
          go_cut [] (fun wx => wx = wo.setCell ⟨RS, k, none⟩ (.bool sk))
          case first =>
            by_cases hk1 : k < len1
            · obtain ⟨x, rfl, hx⟩ := HSK.out.1 hk1
              clear HSK
              go_wp2_with fail
              go_meet
              rfl
            · obtain rfl := HSK.out.2 hk1
              clear HSK
              go_wp2_with fail
              go_meet
              rfl
          case rest =>
            subst hcut
            have LS := HL.out.putS HH.out.1 sk
            have HLS := Lib.hid LS
            clear LS e0 f0 lS HSK
            generalize wo.setCell ⟨RS, k, none⟩ (.bool sk) = wp at HLS
            go_upto_if 110 with fail
            go_cut [] (fun wx => ∃ V', L1 w wx RS RV RT len3 (k + 1) (k + 1) k (fun i => if i = k then sk else S i) V' T)
            case first =>
              by_cases hk2 : k < len2
              · obtain ⟨x, rfl, hc, hl⟩ := rowsCells W0.out.2.2.1 k hk2
                have hc := later hc HLS.out.below
                go_wp2_with fail
                refine (cloneAny (A2 k) (L2 k) (C2 k) w.heap.size w _ HLS.out.below (rowsSl W0.out.2.2.1 k hk2) (by have := HLL.out.1 k hk2; omega) HLS.out.below.size).mono ?_
                rintro e wq ⟨o, c', rfl, hbq, hu, _⟩
                have LQ := HLS.out.moved hbq
                have HQ := Lib.hid (And.intro LQ hu)
                have e1 := LQ.cv.cell hlt
                have f1 := LQ.cv.frozen k
                have l1 := LQ.cv.lt
                simp only [Nat.lt_irrefl, if_false] at e1
                clear LQ hu hc hl
                go_wp2_with fail
                go_meet
                exact ⟨_, HQ.out.1.putV HH.out.2.1 HH.out.2.2.2 HQ.out.2 (HLL.out.1 k hk2)⟩
              · go_wp2_with fail
                go_meet
                exact ⟨_, HLS.out.skipV⟩
            case rest =>
              obtain ⟨V', LV⟩ := hcut
              have HLV := Lib.hid LV
              clear LV HLS
              obtain ⟨x, rfl, hc, hl⟩ := rowsCells W0.out.2.2.2 k hlt
              have hc := later hc HLV.out.below
              go_wp2_with fail
              refine (cloneAny (A3 k) (L3 k) (C3 k) w.heap.size w _ HLV.out.below (rowsSl W0.out.2.2.2 k hlt) (by have := HLL.out.2 k hlt; omega) HLV.out.below.size).mono ?_
              rintro e wq ⟨o, c', rfl, hbq, hu, _⟩
              have LQ := HLV.out.moved hbq
              have HQ := Lib.hid (And.intro LQ hu)
              have e1 := LQ.ct.cell hlt
              have f1 := LQ.ct.frozen k
              have l1 := LQ.ct.lt
              simp only [Nat.lt_irrefl, if_false] at e1
              clear LQ hu hc hl
              go_wp2_with fail
              go_roundw
              case rel => exact ⟨k + 1, _, V', _, by omega, by go_num, HQ.out.1.putT HH.out.2.2.1 HH.out.2.2.2 HQ.out.2 (HLL.out.2 k hlt)⟩
              case measure => simp [intOf]; omega
        · obtain rfl : len3 = k := by omega
          clear hlt
          go_wp2_with fail
          refine (cloneAny a0 len0 cap0 w.heap.size w _ HL.out.below W0.out.1 (by omega) zr).mono ?_
          rintro e wa ⟨o0, c0, rfl, hba, hua, _⟩
          have LA := HL.out.moved hba
          have HA := Lib.hid (And.intro LA hua)
          have za := LA.below.size
          clear LA hua hba
          go_wp2_with fail
          refine (new7 hl o0 len0 c0 RS RV RT len3 w.heap.size 1048576 S V T _ (HA.out.1.cs.congr fun i hi => by rw [if_pos hi]) (HA.out.1.cv.congr fun i hi => by rw [if_pos hi]) (HA.out.1.ct.congr fun i hi => by rw [if_pos hi]) HA.out.1.uv HA.out.1.ut h3 za).mono ?_
          rintro e wb ⟨t, pr, D, rfl, ht, hp, hbb⟩
          have HB := Lib.hid (And.intro ht (And.intro hp (And.intro (HA.out.1.below.trans (hbb.mono za)) (HA.out.2.moved (K16.of_below hbb)))))
          have zb := HB.out.2.2.1.size
          clear ht hp hbb
          go_wp2_with fail
          with_reducible refine (inline8 loc t pr len3 len3 w.heap.size 1048576 (.slice o0 len0 c0) len0 D T S _ _ _ _ _ hl _ HB.out.1 HB.out.2.2.2 (by omega) HB.out.2.1 h3 zb (.inr (by omega))).mono ?_
          rintro e wc ⟨hbc, _, _, hS | hT⟩
          · obtain ⟨⟨s, os, ns, cs, y, rfl, hrow⟩, _⟩ := hS
            have bw0 := HB.out.2.2.1.trans hbc
            have zc := bw0.size
            have HC := Lib.hid (And.intro hrow bw0)
            clear hrow bw0 hbc
            go_upto_region 20 with fail
            have r1 := RowAt.new wc #[.iface 49 (ptr s), .int .i32 loc] 35
            have b1 : Below wc.heap.size wc (wc.alloc (.cells #[.iface 49 (ptr s), .int .i32 loc] 35)) := (Below.refl _ _).alloc (Nat.le_refl _) _
            obtain ⟨q, hq⟩ : ∃ q, q = wc.heap.size := ⟨_, rfl⟩
            rw [← hq] at r1 ⊢
            generalize wc.alloc (.cells #[.iface 49 (ptr s), .int .i32 loc] 35) = we at r1 b1 ⊢
            have HE := Lib.hid (And.intro r1 (And.intro (HC.out.1.below b1 HC.out.1.lt) (HC.out.2.trans (b1.mono zc))))
            have c0 := r1.cellv (j := 0) (v := .iface 49 (ptr s)) rfl
            have c1 := r1.cellv (j := 1) (v := .int .i32 loc) rfl
            have lq := r1.lt
            clear r1 b1 hq
            go_wp2_with fail
            refine (astmp9s s loc _).mono ?_
            rintro e wd ⟨rfl, hbd⟩
            have c0' := later c0 hbd
            have c1' := later c1 hbd
            have lq' := cell_lt c0'
            have HD := Lib.hid (And.intro (HE.out.2.1.below hbd HE.out.2.1.lt) (HE.out.2.2.trans (hbd.mono HE.out.2.2.size)))
            clear hbd c0 c1 lq
            go_wp2_with fail
            refine (asstr10 s loc os ns cs y _ (HD.out.1.cellv rfl) (HD.out.1.cellv rfl)).mono ?_
            rintro e wf ⟨rfl, hbf⟩
            have HF := Lib.hid (HD.out.2.trans (hbf.mono HD.out.2.size))
            clear hbf
            go_wp2_with fail
            go_ret
            exact ⟨rfl, HF.out⟩
          · obtain ⟨t2, pr2, m, h, l, D2, T2, rfl, hr, hu, hlB, hp, hm1, _⟩ := hT
            obtain ⟨oh, ch, rfl⟩ := hu.sl
            have mn := hp.le
            have bw0 := HB.out.2.2.1.trans hbc
            have zc := bw0.size
            have HC := Lib.hid (And.intro hr (And.intro hu (And.intro hp bw0)))
            clear hr hu hp bw0 hbc
            go_upto_region 20 with fail
            have r1 := RowAt.new wc #[.iface 28 (ptr t2), .int .i32 loc] 35
            have b1 : Below wc.heap.size wc (wc.alloc (.cells #[.iface 28 (ptr t2), .int .i32 loc] 35)) := (Below.refl _ _).alloc (Nat.le_refl _) _
            obtain ⟨q, hq⟩ : ∃ q, q = wc.heap.size := ⟨_, rfl⟩
            rw [← hq] at r1 ⊢
            generalize wc.alloc (.cells #[.iface 28 (ptr t2), .int .i32 loc] 35) = we at r1 b1 ⊢
            have c0 := r1.cellv (j := 0) (v := .iface 28 (ptr t2)) rfl
            have c1 := r1.cellv (j := 1) (v := .int .i32 loc) rfl
            have lq := r1.lt
            have HE := Lib.hid b1
            clear r1 b1 hq
            go_wp2_with fail
            refine (astmp9 t2 loc _).mono ?_
            rintro e wd ⟨rfl, hbd⟩
            have bcd : Below wc.heap.size wc wd := HE.out.trans (hbd.mono HE.out.size)
            have hpD := HC.out.2.2.1.moved (K16.of_below bcd) (KO.of_below bcd) (Nat.le_refl _)
            obtain ⟨q2, r, hR⟩ := hpD.refs (fun _ _ => rfl)
            have zd := Nat.le_trans zc bcd.size
            have HD := Lib.hid (And.intro (HC.out.1.below bcd HC.out.1.lt) (And.intro (HC.out.2.1.moved (K16.of_below bcd)) (And.intro hpD (And.intro (HC.out.2.2.2.trans (bcd.mono zc)) hR))))
            clear hbd c0 c1 lq HE hpD hR bcd
            go_wp2_with fail
            refine (shape11 t2 pr2 len3 m w.heap.size _ .nilIface D2 T2 (fun _ => false) q2 r _ _ _ _ _ _ oh l ch _ HD.out.1 HD.out.2.2.1 HD.out.2.2.2.2 (by omega)).mono ?_
            rintro e we ⟨R1, R2, rfl, k1, k2, hbe⟩
            have ze := Nat.le_trans zd hbe.size
            have HE := Lib.hid (And.intro k1 (And.intro k2 hbe))
            clear k1 k2 hbe
            have lB : l ≤ 1099511627776 := by omega
            go_wp2_with fail
            refine (cloneAny oh l ch w.heap.size _ _ HE.out.2.2 HD.out.2.1.sl16 lB ze).mono ?_
            rintro e wf ⟨o1, c1, rfl, hbf, _, hs1⟩
            have bdf := HE.out.2.2.trans (hbf.mono HE.out.2.2.size)
            have zf := Nat.le_trans ze hbf.size
            have HF := Lib.hid (And.intro (HD.out.1.below bdf HD.out.1.lt) (And.intro (HD.out.2.1.moved (K16.of_below bdf)) (And.intro (HD.out.2.2.1.moved (K16.of_below bdf) (KO.of_below bdf) (Nat.le_refl _)) (And.intro (HD.out.2.2.2.1.trans (bdf.mono zd)) (And.intro (HE.out.1.below hbf HE.out.1.lt) (And.intro (HE.out.2.1.below hbf HE.out.2.1.lt) hs1))))))
            have HR : Hid (Refs wf m D2 q2 r) := Lib.hid fun i hi => by
              obtain ⟨e1, e2, e3⟩ := HD.out.2.2.2.2 i hi
              exact ⟨e1, later e2 bdf, e3⟩
            clear hbf hs1 bdf HD HE HC zb zc zd ze za zr HB HA HL
            obtain ⟨i0, hi, hz0, hz1, hz2⟩ := info_parts info22
            obtain ⟨i1, gi, gz0, gz1, gz2⟩ := info_parts info2
            go_wp2_with (at_make; refine wpList_make_full _ rfl _ _ 24 rfl wf.heap.size 22 i0 _ 1 Tryd.underlying24 hi hz0 hz1 .i64 .i64 _ _ m rfl rfl rfl rfl (by rw [hz2]; omega) (by unfold maxLen; omega) (Nat.le_refl _) ?_)
            intro wg hown hgrow
            have b1 : Below wf.heap.size wf wg := (Below.refl _ _).grown hgrow (Nat.le_refl _) (fun k hk => by cases hk)
            have l1 : Cells wg wf.heap.size 22 m (fun _ => .slice none 0 0) := by
              have h' : wg.ownsRow wf.heap.size 22 1 (.slice (some ⟨wf.heap.size, 0, none⟩) m m) m (madeCells #[.slice none 0 0] (m * 1)).toList := by simpa using hown
              have := Cells.made h'
              rw [Nat.mul_one] at this
              exact this.congr fun i _ => by simp [Nat.mod_one]
            obtain ⟨R3, hR3⟩ : ∃ R3, R3 = wf.heap.size := ⟨_, rfl⟩
            rw [← hR3] at l1 ⊢
            have zg := b1.size
            have HG := Lib.hid (And.intro b1 (And.intro l1 (show wf.heap.size ≤ R3 by omega)))
            clear hown hgrow b1 l1 hR3
            go_wp2_with (at_make; refine wpList_make_full _ rfl _ _ 41 rfl wg.heap.size 2 i1 _ 1 Tryd.underlying41 gi gz0 gz1 .i64 .i64 _ _ m rfl rfl rfl rfl (by rw [gz2]; omega) (by unfold maxLen; omega) (Nat.le_refl _) ?_)
            intro wh hown hgrow
            have b2 : Below wg.heap.size wg wh := (Below.refl _ _).grown hgrow (Nat.le_refl _) (fun k hk => by cases hk)
            have l2 : Cells wh wg.heap.size 2 m (fun _ => .int .i64 0) := by
              have h' : wh.ownsRow wg.heap.size 2 1 (.slice (some ⟨wg.heap.size, 0, none⟩) m m) m (madeCells #[.int .i64 0] (m * 1)).toList := by simpa using hown
              have := Cells.made h'
              rw [Nat.mul_one] at this
              exact this.congr fun i _ => by simp [Nat.mod_one]
            obtain ⟨R4, hR4⟩ : ∃ R4, R4 = wg.heap.size := ⟨_, rfl⟩
            rw [← hR4] at l2 ⊢
            have HHH := Lib.hid (And.intro (HG.out.1.trans (b2.mono zg)) (And.intro (HG.out.2.1.below b2 HG.out.2.1.lt) (And.intro l2 (And.intro HG.out.2.2 (show wf.heap.size ≤ R4 by omega)))))
            clear hown hgrow b2 l2 hR4 HG hi hz0 hz1 hz2 gi gz0 gz1 gz2 i0 i1
            go_wp2_with fail
            go_loopw [33] (fun v33 wr => ∃ (k : Nat) (X : Nat → Value), k ≤ m ∧ v33 = .int .i64 k ∧ Lq wf wr R3 R4 m k T2 X r) (fun v33 _ => m - (intOf v33).toNat)
            case atStart => exact ⟨0, fun _ => .nilIface, Nat.zero_le _, rfl, ⟨HHH.out.2.1.congr fun i _ => by simp, HHH.out.2.2.1.congr fun i _ => by simp, fun i hi => by omega, HHH.out.1⟩⟩
            case round =>
              obtain ⟨k, X, hk, rfl, LX⟩ := hrel
              have HX := Lib.hid LX
              have zx := LX.below.size
              clear LX
              by_cases hlt : k < m
              · obtain ⟨lt2, htu, htl⟩ := HF.out.2.2.1.tail k hlt
                obtain ⟨ot, ct, et⟩ := htu.sl
                rw [et] at htu
                obtain ⟨rk, hrk⟩ : ∃ x, r k = x := ⟨_, rfl⟩
                have r0 := (HR.out k hlt).2.2.1
                have kr1 := later (HF.out.2.2.2.2.1.cell hlt) HX.out.below
                have kr2 := later (HF.out.2.2.2.2.2.1.cell hlt) HX.out.below
                rw [et] at kr1
                simp only [hrk] at kr2 r0
                have lr1 := cell_lt kr1
                have HT := Lib.hid (And.intro htu.sl16 (And.intro et hrk))
                have lt40 : lt2 ≤ 1099511627776 := by omega
                have hR13 : R1 ≠ R3 := by have := HF.out.2.2.2.2.1.lt; have := HHH.out.2.2.2.1; omega
                have hR23 : R2 ≠ R3 := by have := HF.out.2.2.2.2.2.1.lt; have := HHH.out.2.2.2.1; omega
                have hR24 : R2 ≠ R4 := by have := HF.out.2.2.2.2.2.1.lt; have := HHH.out.2.2.2.2; omega
                have hR34 : R3 ≠ R4 := cells_ne HHH.out.2.1 HHH.out.2.2.1 (by decide)
                have hR31 := hR13.symm
                have hR32 := hR23.symm
                have hR42 := hR24.symm
                have hR43 := hR34.symm
                clear htu et hrk htl
                go_wp2_with fail
                refine (cloneAny ot lt2 ct w.heap.size wf _ HX.out.below HT.out.1 lt40 (Nat.le_trans zf zx)).mono ?_
                rintro e wq ⟨ox, cx, rfl, hbq, _, hsx⟩
                have LQ := HX.out.moved hbq
                have HQ := Lib.hid (And.intro LQ hsx)
                have e1 := LQ.c3.cell hlt
                have e2 := LQ.c4.cell hlt
                have f1 := LQ.c3.frozen k
                have f2 := LQ.c4.frozen k
                have l3 := LQ.c3.lt
                have l4 := LQ.c4.lt
                simp only [Nat.lt_irrefl, if_false] at e1 e2
                have kq2 := later kr2 hbq
                have lq2 := cell_lt kq2
                clear LQ hsx kr1 kr2 lr1 hbq
                go_wp2_with fail
                go_roundw
                case rel => exact ⟨k + 1, _, by omega, by go_num, by rw [← HT.out.2.2]; exact HQ.out.1.put HHH.out.2.2.2.1 HHH.out.2.2.2.2 hR34 ⟨ot, lt2, ct, ox, cx, HT.out.2.1, rfl, lt40, HQ.out.2⟩⟩
                case measure => simp [intOf]; omega
              · obtain rfl : m = k := by omega
                clear hlt
                obtain ⟨wo, rfl⟩ : ∃ wo : World, wo = wr := ⟨_, rfl⟩
                have rw2 := HF.out.1.below HX.out.below HF.out.1.lt
                have HW := Lib.hid (And.intro rw2 (And.intro (HF.out.2.1.moved (K16.of_below HX.out.below)) (HF.out.2.2.1.moved (K16.of_below HX.out.below) (KO.of_below HX.out.below) (Nat.le_refl _))))
                have zw : w.heap.size ≤ wo.heap.size := Nat.le_trans zf zx
                clear rw2
                go_wp2_with fail
                with_reducible refine (inline8 loc t2 pr2 len3 m w.heap.size ((2 * len3 + 1) * 1048576) (.slice oh l ch) l D2 T2 (fun _ => false) _ _ _ _ _ hl _ HW.out.1 HW.out.2.1 hlB HW.out.2.2 (by omega) zw (.inl fun _ _ => rfl)).mono ?_
                rintro e wc ⟨hbc, _, _, hS | hT⟩
                · have := hS.2 (fun _ _ => rfl)
                  omega
                · obtain ⟨t3, pr3, m3, h3', l3, D3, T3, rfl, hr3, hu3, _, hp3, _, hsame⟩ := hT
                  obtain ⟨e1, e2, hDT, hb3⟩ := hsame (fun _ _ => rfl)
                  obtain rfl : m = m3 := e1.symm
                  subst e2
                  have zc := hb3.size
                  have HC := Lib.hid (And.intro hr3 (And.intro hp3 (And.intro hb3 hDT)))
                  clear hr3 hu3 hp3 hsame hDT hb3 hbc e1
                  go_upto_region 37 with fail
                  have r1 := RowAt.new wc #[.iface 28 (ptr t3), .int .i32 loc] 35
                  have b1 : Below wc.heap.size wc (wc.alloc (.cells #[.iface 28 (ptr t3), .int .i32 loc] 35)) := (Below.refl _ _).alloc (Nat.le_refl _) _
                  obtain ⟨q, hq⟩ : ∃ q, q = wc.heap.size := ⟨_, rfl⟩
                  rw [← hq] at r1 ⊢
                  generalize wc.alloc (.cells #[.iface 28 (ptr t3), .int .i32 loc] 35) = we at r1 b1 ⊢
                  have c0 := r1.cellv (j := 0) (v := .iface 28 (ptr t3)) rfl
                  have c1' := r1.cellv (j := 1) (v := .int .i32 loc) rfl
                  have lq := r1.lt
                  have HE := Lib.hid b1
                  clear r1 b1 hq
                  go_wp2_with fail
                  refine (astmp9 t3 loc _).mono ?_
                  rintro e wd ⟨rfl, hbd⟩
                  have bcd : Below wc.heap.size wc wd := HE.out.trans (hbd.mono HE.out.size)
                  have d0 := later c1' hbd
                  have r3 := HC.out.1.below bcd HC.out.1.lt
                  have d1 := r3.cellv (j := 5) (v := .int .i32 hl) rfl
                  have g1 := r3.lt
                  have bod : Below wo.heap.size wo wd := HC.out.2.2.1.trans (bcd.mono zc)
                  have d2 := (HW.out.1.below bod HW.out.1.lt).cellv (j := 5) (v := .int .i32 hl) rfl
                  have g2 := (HW.out.1.below bod HW.out.1.lt).lt
                  have g0 := cell_lt d0
                  have HR3 : Hid (Refs wd m D3 q2 r) := Lib.hid fun i hi => by
                    obtain ⟨e1, e2, e3⟩ := HR.out i hi
                    exact ⟨(HC.out.2.2.2 i hi).1.trans e1, later e2 (HX.out.below.trans (bod.mono zx)), e3⟩
                  have HD := Lib.hid (And.intro r3 (And.intro (HC.out.2.1.moved (K16.of_below bcd) (KO.of_below bcd) (Nat.le_refl _)) (And.intro bod (show ∀ i, i < m → T3 i = T2 i from fun i hi => (HC.out.2.2.2 i hi).2))))
                  have zd := bod.size
                  simp only [] at g0
                  clear hbd c0 c1' lq HE r3 bcd bod HC zc
                  go_upto_region 38 with fail
                  unfold ptr
                  go_quiet (fail)
                  go_wp2_with fail
                  have hsh := fun nq => shape11 t3 pr3 m m w.heap.size _ .nilIface D3 T3 (fun _ => false) q2 r _ _ _ _ _ _ oh l ch (wd.drewN nq) (HD.out.1.drewN nq) (HD.out.2.1.moved (K16.of_below (below_drewN (Below.refl _ _) nq)) (KO.of_below (below_drewN (Below.refl _ _) nq)) (Nat.le_refl _)) (refs_drewN HR3.out nq) (by omega)
                  unfold ptr at hsh
                  refine (hsh _).mono ?_
                  rintro e we ⟨R5, R6, rfl, k5, k6, hbe⟩
                  have boe := HD.out.2.2.1.trans (((below_drewN (Below.refl wd.heap.size wd) _).trans hbe).mono zd)
                  have HK := Lib.hid (And.intro k5 (And.intro k6 (And.intro boe (sameU_later HF.out.2.2.2.2.2.2 (HX.out.below.trans (boe.mono zx))))))
                  clear k5 k6 hbe boe d0 d1 d2 g0 g1 g2 hsh
                  go_wp2_with fail
                  refine (eq12 oh o1 l ch c1 _ lB HK.out.2.2.2).mono ?_
                  rintro e wl ⟨rfl, q9, rfl⟩
                  go_wp2_with fail
                  go_loopw [41] (fun v41 wr => ∃ k q : Nat, k ≤ m ∧ v41 = .int .i64 k ∧ wr = we.drewN q) (fun v41 _ => m - (intOf v41).toNat)
                  case atStart => exact ⟨0, _, Nat.zero_le _, rfl, rfl⟩
                  case round =>
                    obtain ⟨k, qk, hk, rfl, rfl⟩ := hrel
                    by_cases hlt : k < m
                    · obtain ⟨o, l2, c, o', c', e1, e2, e3, e4⟩ := HX.out.same k hlt
                      have HS := Lib.hid (sameU_later e4 HK.out.2.2.1)
                      have x5 := HK.out.1.cell hlt
                      rw [HD.out.2.2.2 k hlt, e1] at x5
                      have x6 := HK.out.2.1.cell hlt
                      have x3 := later (HX.out.c3.cell hlt) HK.out.2.2.1
                      have x4 := later (HX.out.c4.cell hlt) HK.out.2.2.1
                      simp only [hlt, if_true] at x3 x4
                      rw [e2] at x3
                      obtain ⟨rk, hrk⟩ : ∃ x, r k = x := ⟨_, rfl⟩
                      rw [hrk] at x4
                      simp only [hrk] at x6
                      have n3 := cell_lt x3
                      have n4 := cell_lt x4
                      have n5 := cell_lt x5
                      have n6 := cell_lt x6
                      simp only [] at n3 n4 n5 n6
                      clear e1 e2 e4 hrk
                      go_upto_region 46 with fail
                      go_quiet ((go_at_call 12; first | exact quiet2 (eq12 o o' l2 c c' _ e3 (sameU_drewN HS.out _)) | exact Calls.quiet_of (eq12 o o' l2 c c' _ e3 (sameU_drewN HS.out _))))
                      go_wp2_with fail
                      go_roundw
                      case rel => exact ⟨k + 1, _, by omega, by go_num, rfl⟩
                      case measure => simp [intOf]; omega
                    · obtain rfl : m = k := by omega
                      go_wp2_with fail
                      go_ret
                      exact ⟨rfl, below_drewN (HF.out.2.2.2.1.trans ((HX.out.below.trans (HK.out.2.2.1.mono zx)).mono zf)) _⟩

end Go.Proofs.YtkncfhhiookgdacDoor
