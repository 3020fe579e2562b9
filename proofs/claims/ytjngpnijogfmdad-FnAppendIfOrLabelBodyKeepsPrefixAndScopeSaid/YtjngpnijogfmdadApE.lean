import Derived.Test.YtjngpnijogfmdadKit
import Derived.Test.YtjngpnijogfmdadApD
namespace Go.Proofs.Ytjngpnijogfmdad.fnAppendIfOrLabelBodyKeepsPrefixAndScope
open Go.ChangeShapes Go.WideShapes Go.ChangeAt Go.RowKit
set_option linter.unusedVariables false
set_option maxRecDepth 100000
set_option maxHeartbeats 2000000

theorem info3 : (Try.prog.info? 3).map (fun i => (i.zero, i.size, i.bytes)) = some (some (.int .i64 0), 1, 8) := by kernel_rfl
theorem zz4 (a1 : Int) (a : Option Addr) (n c : Nat) (a' : Option Addr) (m c' : Nat) (w : World) (h1 : n ≤ 1048576) (h2 : m ≤ 1048576) (h : n + m ≤ 1048576) :
    Calls Try.prog 4 #[.slice a n c, .int .u8 a1, .slice a' m c'] w fun e w' => e = .returned (.bool true) ∧ w = w' := by
  go_enter Try.func4, Try.ntmps4
  go_wp2
  go_ret
  exact ⟨rfl, rfl⟩
theorem zz4no (a1 : Int) (a : Option Addr) (n c : Nat) (a' : Option Addr) (m c' : Nat) (w : World) (m1 : n ≤ 9223372036854775807) (m2 : m ≤ 9223372036854775807) (h : ¬ (n ≤ 1048576 ∧ m ≤ 1048576 ∧ n + m ≤ 1048576)) :
    Calls Try.prog 4 #[.slice a n c, .int .u8 a1, .slice a' m c'] w fun e w' => e = .returned (.bool false) ∧ w = w' := by
  by_cases h1 : 1048576 < n
  · clear h
    go_enter Try.func4, Try.ntmps4
    go_wp2
    go_ret
    exact ⟨rfl, rfl⟩
  by_cases h2 : 1048576 < m
  · clear h
    go_enter Try.func4, Try.ntmps4
    go_wp2
    go_ret
    exact ⟨rfl, rfl⟩
  have h3 : 1048576 < n + m := by omega
  clear h
  go_enter Try.func4, Try.ntmps4
  go_wp2
  go_ret
  exact ⟨rfl, rfl⟩
theorem app7 (R n lim : Nat) (z0 : Bool) (T u : Nat → Nat) (l : Nat → Int) (T0 u0 : Nat) (l0 : Int) (w : World) (H : ∀ w', Below w.heap.size w w' → Calls Try.prog 12 #[.slice (some ⟨R, 0, none⟩) n n, .agg #[.iface T0 (.pointer (some ⟨u0, 0, none⟩)), .int .i32 l0]] w' (Outp w' n lim z0 T u l)) :
    Calls Try.prog 7 #[.slice (some ⟨R, 0, none⟩) n n, .agg #[.iface T0 (.pointer (some ⟨u0, 0, none⟩)), .int .i32 l0]] w (Outp w n lim z0 T u l) := by
  have HH := Lib.hid H
  have hst := fun (A : Addr) (W : World) (m : Mode) => run_store Try.prog W A (.iface T0 (.pointer (some ⟨u0, 0, none⟩))) m rfl
  clear H
  go_enter Try.func7, Try.ntmps7
  go_wp2_with fail
  refine (HH.out _ (by go_grown)).mono ?_
  rintro e w1 ⟨g, c, N, T2, u2, l2, rfl, h1, h2, h3, h4, h5, h6, h7⟩
  have R := Lib.hid (And.intro h1 (And.intro h2 (And.intro h3 (And.intro h4 (And.intro h5 (And.intro h6 (Below.trans (by go_grown) (h7.mono (by simp)) : Below w.heap.size w w1)))))))
  clear h1 h2 h3 h4 h5 h6 h7
  go_wp2_with fail
  go_ret
  exact ⟨g, c, N, T2, u2, l2, rfl, R.out.1, R.out.2.1, R.out.2.2.1, R.out.2.2.2.1, R.out.2.2.2.2.1, R.out.2.2.2.2.2.1, R.out.2.2.2.2.2.2⟩
theorem app_simple (R n : Nat) (T u : Nat → Nat) (l : Nat → Int) (T0 u0 : Nat) (l0 : Int) (cc : Bool) (lim : Nat) (w : World) (hn : n ≤ 65536) (hlim : 1 ≤ lim) (hS : Stms w R n T u l) (hT : T0 ∈ simT) (hd : Sd w T0 u0 cc) :
    Calls Try.prog 12 #[.slice (some ⟨R, 0, none⟩) n n, .agg #[.iface T0 (.pointer (some ⟨u0, 0, none⟩)), .int .i32 l0]] w (Outp w n lim false T u l) := by
  cases cc
  · exact app_plain R n T u l T0 u0 l0 lim w hn hlim hS hT hd
  · exact app_cares R n T u l T0 u0 l0 lim w hn hlim hS hT hd
theorem care9 (w : World) (T u : Nat) (c : Bool) (l : Int) (h : Sd w T u c) : Calls Try.prog 9 #[.agg #[.iface T (.pointer (some ⟨u, 0, none⟩)), .int .i32 l]] w fun e w' => e = .returned (.bool c) ∧ Below w.heap.size w w' := by
  have HH := Lib.hid h
  have hst := fun (A : Addr) (W : World) (m : Mode) => run_store Try.prog W A (.iface T (.pointer (some ⟨u, 0, none⟩))) m rfl
  clear h
  go_enter Try.func9, Try.ntmps9
  go_wp2_with fail
  refine (care _ T u c l (Sd_below HH.out (by go_grown))).mono ?_
  rintro e w1 ⟨rfl, hb⟩
  go_wp2_with fail
  go_ret
  exact ⟨rfl, Below.trans (by go_grown) (hb.mono (by simp))⟩

theorem u8s {w : World} {a : Option Addr} {n c : Nat} {zs : List Int} (h : IsRow .u8 w a n c zs) : U8s w a n (fun i => zs.getD i 0) := by
  intro i hi
  rcases h with ⟨rfl, rfl, rfl, rfl⟩ | ⟨x, rfl, hl, hm, hz, hcell, hwz⟩
  · omega
  · refine ⟨x, rfl, hcell i (by omega), ?_⟩
    have := bounds_u8 (hwz (zs.getD i 0) (by rw [List.getD_eq_getElem?_getD, List.getElem?_eq_getElem (by omega)]; simp))
    omega

set_option maxHeartbeats 8000000 in
theorem main_bm (k : Int) (a : Option Addr) (n c : Nat) (z : Nat → Int) (a' : Option Addr) (m c' : Nat) (y : Nat → Int) (w : World) (k0 : 0 ≤ k) (k1 : k ≤ 255) (hn : n ≤ 65536) (hm : m ≤ 65536) (hz : U8s w a n z) (hy : U8s w a' m y) (hk : k % 10 = 9) (hm1 : 1 < m) :
    Calls Try.prog 3 #[.slice a n c, .int .u8 k, .slice a' m c'] w fun e w' => e = .returned (.bool true) ∧ Below w.heap.size w w' := by
  obtain ⟨i0, hi, hz0, hz1, hz2⟩ := info_parts info3
  have HZ := Lib.hid hz
  have HY := Lib.hid hy
  clear hz hy
  go_enter Try.func3, Try.ntmps3
  go_wp2_with fail
  refine (zz4 _ _ _ _ _ _ _ _ (by omega) (by omega) (by omega)).mono ?_
  rintro e w0 ⟨rfl, rfl⟩
  go_wp2_with fail
  refine (pre5 a n c z _ hn HZ.out).mono ?_
  rintro e w1 ⟨T, u, l, C, rfl, hP, hb1⟩
  have HP1 := Lib.hid hP
  have HB1 := Lib.hid hb1
  have hR1 : w.heap.size < w1.heap.size := by obtain ⟨cs, hr, _⟩ := hP.row; exact hr.lt
  clear hP hb1 HZ
  go_wp2_with (at_make; refine wpList_make_full _ rfl _ _ 26 rfl w1.heap.size 3 i0 _ 1 Try.underlying26 hi hz0 hz1 .i64 .i64 _ _ m rfl rfl rfl rfl (by rw [hz2]; omega) (by unfold maxLen; omega) (Nat.le_refl _) ?_; intro w2 hown hgrow)
  clear hi hz0 hz1 hz2 i0
  obtain ⟨cs0, hr0, hs0, _⟩ := RowAt.of_owns hown
  have hb2 : Below w1.heap.size w1 w2 := (Below.refl _ _).grown hgrow (Nat.le_refl _) (fun k hk => by cases hk)
  have hU2 : RowUpTo w2 w1.heap.size 3 m 0 (fun i => .int .i64 (y i % 9)) := RowUpTo.start hr0 (by omega) _
  clear hown hgrow hr0 hs0
  go_loopw [12] (fun v12 wr => ∃ j : Nat, j ≤ m ∧ v12 = .int .i64 j ∧ RowUpTo wr w1.heap.size 3 m j (fun i => .int .i64 (y i % 9)) ∧ Below w1.heap.size w1 wr) (fun v12 _ => m - (intOf v12).toNat)
  case atStart => exact ⟨0, Nat.zero_le _, rfl, hU2, hb2⟩
  case round =>
    obtain ⟨j, hj, rfl, hU, hb⟩ := hrel
    have HU := Lib.hid hU
    clear hU hU2 hb2
    have hsz := hb.size
    by_cases hlt : j < m
    · obtain ⟨x, rfl, hcx, z0, z1⟩ := HY.out j hlt
      have hc := later hcx (HB1.out.trans (hb.mono HB1.out.size))
      obtain ⟨q, hq⟩ : ∃ q, y j = q := ⟨_, rfl⟩
      rw [hq] at hc z0 z1
      obtain ⟨x0, q0⟩ := HU.out.old hlt
      have q2 := HU.out.frozen j
      have HS : Hid (RowUpTo (wr.setCell ⟨w1.heap.size, j, none⟩ (.int .i64 (q % 9))) w1.heap.size 3 m (j + 1) (fun i => .int .i64 (y i % 9))) := by
        have := HU.out.step hlt
        rw [hq] at this
        exact this
      clear hq hcx
      go_wp2_with fail
      go_roundw
      case rel => exact ⟨j + 1, by omega, by go_num, HS.out, hb.setCell (Nat.le_refl _) _⟩
      case measure => simp [intOf]; omega
    obtain rfl : j = m := by omega
    clear hlt
    obtain ⟨w3, rfl⟩ : ∃ w3, w3 = wr := ⟨_, rfl⟩
    have HP3 := Lib.hid (Part_below HP1.out hb)
    have HB3 := Lib.hid (HB1.out.trans (hb.mono HB1.out.size))
    have hR3 : w.heap.size < w3.heap.size := by omega
    clear HP1 HB1 hb
    go_wp2_with fail
    refine (branchB _ _ _ w1.heap.size j (fun i => y i % 9) _ hm (by omega) (by omega) (by omega) (by omega) (fun i hi => ⟨HU.out.cell hi, by obtain ⟨_, _, _, h0, h1⟩ := HY.out i hi; show (0 : Int) ≤ y i % 9; omega, by obtain ⟨_, _, _, h0, h1⟩ := HY.out i hi; show y i % 9 ≤ (8 : Int); omega⟩)).mono ?_
    rintro e w4 ⟨B, R2, T', u', l', rfl, hcB, hPB, hb4⟩
    have HP4 := Lib.hid (Part_below HP3.out hb4)
    have HB4 := Lib.hid (HB3.out.trans (hb4.mono HB3.out.size))
    have HCB := Lib.hid hcB
    have HPB := Lib.hid hPB
    clear hcB hPB hb4 HP3 HB3 HU HY
    go_wp2_with fail
    refine (app7 w.heap.size n j (decide (j = 0)) T u l 39 B _ _ (fun w' hb' => app_block w.heap.size n T u l B R2 j T' u' l' _ _ j w' hn hm (by omega) (by omega) (Stms_below (Stms_below (Part_stms HP4.out) (by go_grown)) hb') (later (later HCB.out (by go_grown)) hb') (Part_below (Part_below HPB.out (by go_grown)) hb'))).mono ?_
    rintro e w5 ⟨g, cg, N, T2, u2, l2, rfl, hN1, hN2, hN3, hS5, hpre, hcare, hb5⟩
    have hb45 : Below w4.heap.size w4 w5 := Below.trans (by go_grown) (hb5.mono (by simp))
    have HP5 := Lib.hid (Part_below HP4.out hb45)
    have HB5 := Lib.hid (HB4.out.trans (hb45.mono HB4.out.size))
    have HS5 := Lib.hid hS5
    have HPre := Lib.hid hpre
    have HCare := Lib.hid hcare
    have hN4 : N ≤ 200000 := by omega
    clear hS5 hpre hcare hb5 hb45 HP4 HB4
    obtain ⟨ad, rfl⟩ : ∃ ad, N = n + ad := ⟨N - n, by omega⟩
    go_wp2_with fail
    go_loopw [15] (fun v15 wr => ∃ i : Nat, i ≤ n ∧ v15 = .int .i64 i ∧ Below w5.heap.size w5 wr) (fun v15 _ => n - (intOf v15).toNat)
    case atStart => exact ⟨0, Nat.zero_le _, rfl, Below.refl _ _⟩
    case round =>
      obtain ⟨i, hi, rfl, hb⟩ := hrel
      by_cases hlt : i < n
      · obtain ⟨c0, c1⟩ := Stms_below HS5.out hb i (by omega)
        obtain ⟨d0, d1⟩ := Stms_below (Part_stms HP5.out) hb i hlt
        obtain ⟨e1, e2, e3⟩ := HPre.out i hlt
        have hT := (HP5.out.sd i hlt).1
        rw [e1, e2] at c0
        rw [e3] at c1
        obtain ⟨T0, hT0⟩ : ∃ x, T i = x := ⟨_, rfl⟩
        obtain ⟨u0, hu0⟩ : ∃ x, u i = x := ⟨_, rfl⟩
        obtain ⟨l0, hl0⟩ : ∃ x, l i = x := ⟨_, rfl⟩
        rw [hT0, hu0] at c0 d0
        rw [hl0] at c1 d1
        rw [hT0] at hT
        have hst := fun (A : Addr) (W : World) (M : Mode) => run_store Try.prog W A (.iface T0 (.pointer (some ⟨u0, 0, none⟩))) M rfl
        have HT := Lib.hid hT
        have g1 := cell_lt c0
        have g2 := cell_lt d0
        have hsz := hb.size
        clear hT0 hu0 hl0 hT e1 e2 e3
        go_wp2_with fail
        go_region_with (go_at_call 8; (with_reducible refine (same8 T0 u0 l0 _ HT.out).mono ?_); rintro e w6 ⟨rfl, h6⟩; have hb6 : Hid (Below w5.heap.size w5 w6) := hb.trans (Below.trans (by go_grown) (h6.mono (by simp)) |>.mono hsz); clear h6)
        all_goals
          go_wp2_with fail
          go_roundw
          case rel => exact ⟨i + 1, by omega, by go_num, by first | exact hb6.out | exact below_drewN hb6.out 1⟩
          case measure => simp [intOf]; omega
      obtain rfl : i = n := by omega
      clear hlt
      obtain ⟨w7, rfl⟩ : ∃ w7, w7 = wr := ⟨_, rfl⟩
      have HB7 := Lib.hid (HB5.out.trans (hb.mono HB5.out.size))
      have HS7 := Lib.hid (Stms_below HS5.out hb)
      have HC7 := Lib.hid (show ∀ e, i ≤ e → e < i + ad → Sd w7 (T2 e) (u2 e) false from fun e h1 h2 => Sd_below (HCare.out e h1 h2) hb)
      clear hb HB5 HS5 HCare HP5 HPre
      have had : 0 < ad := by
        rcases Nat.eq_zero_or_pos ad with h | h
        · subst h
          exact absurd (hN3 rfl) (by simp; omega)
        · exact h
      clear hN3
      go_wp2_with fail
      go_loopw [18] (fun v18 wr => ∃ q : Nat, i ≤ q ∧ q ≤ i + ad ∧ v18 = .int .i64 q ∧ Below w7.heap.size w7 wr) (fun v18 _ => i + ad - (intOf v18).toNat)
      case atStart => exact ⟨i, Nat.le_refl _, by omega, rfl, Below.refl _ _⟩
      case round =>
        obtain ⟨q, hq, hq2, rfl, hb⟩ := hrel
        by_cases hlt : q < i + ad
        · obtain ⟨c0, c1⟩ := Stms_below HS7.out hb q hlt
          have hd := Sd_below (HC7.out q hq hlt) hb
          obtain ⟨T0, hT0⟩ : ∃ x, T2 q = x := ⟨_, rfl⟩
          obtain ⟨u0, hu0⟩ : ∃ x, u2 q = x := ⟨_, rfl⟩
          obtain ⟨l0, hl0⟩ : ∃ x, l2 q = x := ⟨_, rfl⟩
          rw [hT0, hu0] at c0 hd
          rw [hl0] at c1
          have hst := fun (A : Addr) (W : World) (M : Mode) => run_store Try.prog W A (.iface T0 (.pointer (some ⟨u0, 0, none⟩))) M rfl
          have HD := Lib.hid hd
          have g1 := cell_lt c0
          clear hT0 hu0 hl0 hd
          go_wp2_with fail
          refine (care9 _ T0 u0 false l0 HD.out).mono ?_
          rintro e w8 ⟨rfl, h8⟩
          have hb8 : Hid (Below w7.heap.size w7 w8) := hb.trans (h8.mono hb.size)
          clear h8
          go_wp2_with fail
          go_roundw
          case rel => exact ⟨q + 1, by omega, by omega, by go_num, hb8.out⟩
          case measure => simp [intOf]; omega
        · obtain rfl : q = i + ad := by omega
          go_wp2_with fail
          go_ret
          exact ⟨rfl, HB7.out.trans (hb.mono HB7.out.size)⟩


end Go.Proofs.Ytjngpnijogfmdad.fnAppendIfOrLabelBodyKeepsPrefixAndScope
