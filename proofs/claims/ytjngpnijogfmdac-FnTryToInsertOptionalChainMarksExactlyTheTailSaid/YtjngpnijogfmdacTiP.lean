import Derived.Test.YtjngpnijogfmdacKit
import Derived.Test.YtjngpnijogfmdacTiO
import Derived.Test.YtjngpnijogfmdacTiM
namespace Go.Proofs.Ytjngpnijogfmdac.fnTryToInsertOptionalChainMarksExactlyTheTail
open Go.ChangeShapes Go.WideShapes Go.ChangeAt Go.RowKit
set_option linter.unusedVariables false
set_option maxRecDepth 100000
set_option maxHeartbeats 2000000

theorem Chn_below {w w' w1 : World} {r : Int} {f : Nat → St} {R ub n : Nat} {b : Nat → Nat} (h : Chn w w' r f R ub n b) (hb : Below w'.heap.size w' w1) : Chn w w1 r f R ub n b := by
  obtain ⟨⟨cs, h1, h2, h3⟩, h4, h5, h6⟩ := h
  exact ⟨⟨cs, h1.below hb h1.lt, h2, h3⟩, MC_below hb h4, h5, h6⟩
set_option maxHeartbeats 8000000 in
theorem walkIn (r r' : Int) (a1 a2 a4 a5 : Option Addr) (n1 n2 n4 n5 c1 c2 c4 c5 : Nat) (z1 z4 : Nat → Int) (S2 S5 : Nat → ByteArray) (w : World)
    (m1 : n1 ≤ 9223372036854775807) (m2 : n2 ≤ 9223372036854775807) (m4 : n4 ≤ 9223372036854775807) (m5 : n5 ≤ 9223372036854775807)
    (sh1 : a1 = none → n1 = 0 ∧ c1 = 0) (sh2 : a2 = none → n2 = 0 ∧ c2 = 0) (sh4 : a4 = none → n4 = 0 ∧ c4 = 0) (sh5 : a5 = none → n5 = 0 ∧ c5 = 0)
    (K1 : K8s w a1 n1 z1) (K2 : Strs w a2 n2 S2) (K4 : K8s w a4 n4 z4) (K5 : Strs w a5 n5 S5) (L2 : ∀ i, i < n2 → (S2 i).size ≤ 9223372036854775807) (L5 : ∀ i, i < n5 → (S5 i).size ≤ 9223372036854775807) :
    Calls Try.prog 3 #[.int .u32 r, .slice a1 n1 c1, .slice a2 n2 c2, .int .u32 r', .slice a4 n4 c4, .slice a5 n5 c5] w fun e w' => e = .returned (.bool true) ∧ Below w.heap.size w w' := by
  have HZ := Lib.hid (zz4 r r' a1 n1 c1 a2 n2 c2 S2 a4 n4 c4 a5 n5 c5 S5 w m1 m2 m4 m5 K2 K5 L2 L5)
  have H1 := Lib.hid K1
  have H2 := Lib.hid K2
  have H4 := Lib.hid K4
  have H5 := Lib.hid K5
  have G1 := Lib.hid sh1
  have G2 := Lib.hid sh2
  have G4 := Lib.hid sh4
  have G5 := Lib.hid sh5
  clear K1 K2 K4 K5 L2 L5 sh1 sh2 sh4 sh5
  go_enter Try.func3, Try.ntmps3
  go_wp2_with fail
  refine HZ.out.mono ?_
  clear HZ
  rintro e u ⟨q, rfl, hq, rfl⟩
  cases q
  · clear hq
    go_wp2_with fail
    go_ret
    exact ⟨rfl, Below.refl _ _⟩
  obtain ⟨l1, l2, l4, l5, s2, s5⟩ := hq rfl
  have HB1 := Lib.hid (bytes5 a1 n1 c1 a2 n2 c2 S2 w l1 l2 H2.out s2)
  have HB2 := Lib.hid (bytes5 a4 n4 c4 a5 n5 c5 S5 w l4 l5 H5.out s5)
  have hs2 := Lib.hid s2
  have hs5 := Lib.hid s5
  clear hq s2 s5
  go_wp2_with fail
  refine HB1.out.mono ?_
  clear HB1
  rintro e u ⟨t1, rfl, ht1, rfl⟩
  go_wp2_with fail
  refine HB2.out.mono ?_
  clear HB2
  rintro e u ⟨t2, rfl, ht2, rfl⟩
  by_cases g : 1048576 < t1 + t2
  · go_wp2_with fail
    go_ret
    exact ⟨rfl, Below.refl _ _⟩
  have g0 := g
  clear g
  by_cases g : 4096 < n1
  · go_wp2_with fail
    go_ret
    exact ⟨rfl, Below.refl _ _⟩
  have g1 := g
  clear g
  by_cases g : 65536 < n2
  · go_wp2_with fail
    go_ret
    exact ⟨rfl, Below.refl _ _⟩
  have g2 := g
  clear g
  by_cases g : 4096 < n4
  · go_wp2_with fail
    go_ret
    exact ⟨rfl, Below.refl _ _⟩
  have g4 := g
  clear g
  by_cases g : 65536 < n5
  · go_wp2_with fail
    go_ret
    exact ⟨rfl, Below.refl _ _⟩
  have g5 := g
  clear g
  have HC1 := Lib.hid (cl6 a1 n1 c1 z1 w l1 G1.out H1.out)
  go_wp2_with fail
  refine HC1.out.mono ?_
  rintro e w1 ⟨b1, rfl, k1, hb1⟩
  have D1 := Lib.hid k1
  have W1 := Lib.hid hb1
  have HC2 := Lib.hid (cl7 a2 n2 c2 S2 w1 l2 G2.out (Strs_below H2.out hb1))
  clear k1 hb1 HC1 G1 G2 H1 H2
  go_wp2_with fail
  refine HC2.out.mono ?_
  rintro e w2 ⟨b2, rfl, k2, hb2⟩
  have D2 := Lib.hid k2
  have D1' := Lib.hid (K8s_below D1.out hb2)
  have W2 := Lib.hid (W1.out.trans (hb2.mono W1.out.size))
  have HC4 := Lib.hid (cl6 a4 n4 c4 z4 w2 l4 G4.out (K8s_below H4.out W2.out))
  clear k2 hb2 HC2 D1 W1 H4 G4
  go_wp2_with fail
  refine HC4.out.mono ?_
  rintro e w3 ⟨b4, rfl, k4, hb3⟩
  have D4 := Lib.hid k4
  have D1 := Lib.hid (K8s_below D1'.out hb3)
  have D2' := Lib.hid (Strs_below D2.out hb3)
  have W3 := Lib.hid (W2.out.trans (hb3.mono W2.out.size))
  have HC5 := Lib.hid (cl7 a5 n5 c5 S5 w3 l5 G5.out (Strs_below H5.out W3.out))
  clear k4 hb3 HC4 D1' D2 W2 H5 G5
  go_wp2_with fail
  refine HC5.out.mono ?_
  rintro e w4 ⟨b5, rfl, k5, hb4⟩
  have D5 := Lib.hid k5
  have D1' := Lib.hid (K8s_below D1.out hb4)
  have D2 := Lib.hid (Strs_below D2'.out hb4)
  have D4' := Lib.hid (K8s_below D4.out hb4)
  have W4 := Lib.hid (W3.out.trans (hb4.mono W3.out.size))
  have HT := Lib.hid (build8 r b1 n1 z1 b2 n2 S2 w4 (by omega) (by omega) D1'.out D2.out (nameOf_le n2 S2 hs2.out))
  clear k5 hb4 HC5 D1 D2' D4 W3
  obtain ⟨fT, hfT⟩ : ∃ f, stp z1 n2 S2 = f := ⟨_, rfl⟩
  rw [hfT] at HT
  have HfT := Lib.hid hfT
  clear hfT
  go_wp2_with fail
  refine HT.out.mono ?_
  clear HT
  rintro e v5 ⟨bT, RT, uT, rfl, hCT0, hb50⟩
  obtain ⟨TT, hTT⟩ : ∃ T, kindOf (Lk fT bT n1) = T := ⟨_, rfl⟩
  obtain ⟨vT, hvT⟩ : ∃ v, blk uT (Lk fT bT n1) = v := ⟨_, rfl⟩
  have HTT := Lib.hid hTT
  have HvT := Lib.hid hvT
  rw [hTT, hvT]
  clear hTT hvT
  obtain ⟨w5, hw5⟩ : ∃ W, v5.alloc (.cells #[.iface TT (.pointer (some ⟨vT, 0, none⟩)), .int .i32 0] 34) = W := ⟨_, rfl⟩
  have hb5 : Below w4.heap.size w4 w5 := hw5 ▸ hb50.alloc hb50.size _
  have CT : Hid (Chn w4 w5 r fT RT uT n1 bT) := Chn_below hCT0 (hw5 ▸ (Below.refl _ _).alloc (Nat.le_refl _) _)
  have hrt : RowAt w5 v5.heap.size #[.iface TT (.pointer (some ⟨vT, 0, none⟩)), .int .i32 0] 34 := hw5 ▸ RowAt.new _ _ _
  have HRT := Lib.hid hrt
  have HW5 := Lib.hid hw5
  have W5 := Lib.hid (W4.out.trans (hb5.mono W4.out.size))
  have D1 := Lib.hid (K8s_below D1'.out hb5)
  have D2' := Lib.hid (Strs_below D2.out hb5)
  have D4 := Lib.hid (K8s_below D4'.out hb5)
  have D5' := Lib.hid (Strs_below D5.out hb5)
  have HE := Lib.hid (build8 r' b4 n4 z4 b5 n5 S5 w5 (by omega) (by omega) D4.out D5'.out (nameOf_le n5 S5 hs5.out))
  clear hCT0 hb50 hb5 D1' D2 D4' D5 W4 hrt hw5
  obtain ⟨fE, hfE⟩ : ∃ f, stp z4 n5 S5 = f := ⟨_, rfl⟩
  rw [hfE] at HE
  have HfE := Lib.hid hfE
  clear hfE
  go_wp2_with fail
  rw [HW5.out]
  refine HE.out.mono ?_
  clear HE HW5
  rintro e v6 ⟨bE, RE, uE, rfl, hCE0, hb60⟩
  have hrt := HRT.out.below hb60 HRT.out.lt
  have c0 : v6.cell? ⟨v5.heap.size, 0, none⟩ = some (.iface TT (.pointer (some ⟨vT, 0, none⟩))) := hrt.cellv rfl
  have c1 : v6.cell? ⟨v5.heap.size, 1, none⟩ = some (.int .i32 0) := hrt.cellv rfl
  have z0 : v5.heap.size < v6.heap.size := hrt.lt
  obtain ⟨TE, hTE⟩ : ∃ T, kindOf (Lk fE bE n4) = T := ⟨_, rfl⟩
  obtain ⟨vE, hvE⟩ : ∃ v, blk uE (Lk fE bE n4) = v := ⟨_, rfl⟩
  rw [hTE, hvE]
  obtain ⟨w6, hw6⟩ : ∃ W, v6.alloc (.cells #[.iface TE (.pointer (some ⟨vE, 0, none⟩)), .int .i32 0] 34) = W := ⟨_, rfl⟩
  have hb6 : Below w5.heap.size w5 w6 := hw6 ▸ hb60.alloc hb60.size _
  have hCE : Chn w5 w6 r' fE RE uE n4 bE := Chn_below hCE0 (hw6 ▸ (Below.refl _ _).alloc (Nat.le_refl _) _)
  have HW6 := Lib.hid hw6
  clear hCE0 hb60 hrt HRT hw6
  obtain ⟨D, hD⟩ : ∃ D, wantB r r' fT fE n1 n4 = D := ⟨_, rfl⟩
  have htry : Calls Try.prog 9 #[.agg #[.iface TT (.pointer (some ⟨vT, 0, none⟩)), .int .i32 0], .agg #[.iface (kindOf (Lk fE bE n4)) (.pointer (some ⟨blk uE (Lk fE bE n4), 0, none⟩)), .int .i32 0]] w6 fun e w' => e = .returned (.bool D) ∧ Nodes w' RE n4 fE bE (mOf D n1) ∧ Below w5.heap.size w5 w' := by
    have hch := MC.chain (MC_below hb6 CT.out.mc) (Lk_clean _ _ _)
    rw [HTT.out, HvT.out, steps_Lk] at hch
    refine (try9 r r' (tops fT n1) TT vT uE (Small_tops fT (by rw [← HfT.out]; exact Small_stp z1 n2 S2 (nameOf_le n2 S2 hs2.out)) n1) (Lk fE bE n4) w6 hCE.mc (Lk_clean _ _ _) (by rw [steps_Lk]; exact Small_tops fE (by rw [← HfE.out]; exact Small_stp z4 n5 S5 (nameOf_le n5 S5 hs5.out)) n4) hch).mono fun e w' h => ?_
    have := tried hCE hb6 h
    rw [hD] at this
    exact this
  have HTRY := Lib.hid htry
  have W6 := Lib.hid (W5.out.trans (hb6.mono W5.out.size))
  have HD := Lib.hid hD
  clear htry hCE hb6 hD
  rw [hTE, hvE] at HTRY
  clear hTE hvE
  go_wp2_with fail
  rw [HW6.out]
  clear c0 c1 z0
  refine HTRY.out.mono ?_
  clear HTRY HW6
  rintro e w7 ⟨rfl, hNE, hb7⟩
  have NE := Lib.hid hNE
  have NT := Lib.hid (Nodes_below (Chn_nodes CT.out) hb7)
  have HW := Lib.hid (W5.out.trans (hb7.mono W5.out.size))
  have HP : Hid (n1 ≤ n4 → Calls Try.prog 10 #[.slice b1 n1 n1, .slice b2 n2 n2, .slice b4 n4 n4, .slice b5 n5 n5, .int .i64 n1] w7 (Pm fT fE n1 w7)) := fun h => by
    rw [← HfT.out, ← HfE.out]
    exact pre10 b1 n1 z1 b2 n2 S2 b4 n4 z4 b5 n5 S5 w7 h (by omega) (by omega) (by omega) (by omega) (K8s_below D1.out hb7) (Strs_below D2'.out hb7) (K8s_below D4.out hb7) (Strs_below D5'.out hb7)
  clear hNE hb7 W6 W5 CT HTT HvT HfT HfE hs2 hs5 D1 D2' D4 D5' ht1 ht2 g0
  by_cases hr : r = r'
  · subst hr
    by_cases hp : n1 < n4
    · go_wp2_with fail
      refine (HP.out (by omega)).mono ?_
      rintro e u ⟨q, rfl, hq, rfl⟩
      have hqD : q = D := by
        rw [← HD.out]
        unfold wantB
        rw [Bool.eq_iff_iff, hq, decide_eq_true_iff]
        exact ⟨fun h => ⟨rfl, hp, h⟩, fun h => h.2.2⟩
      subst hqD
      clear hq HD HP
      cases q
      · go_wp2_with fail
        go_loopw [21] (fun v21 wr => ∃ k : Nat, k ≤ n4 ∧ v21 = .int .i64 k ∧ Below w7.heap.size w7 wr) (fun v21 _ => n4 - (intOf v21).toNat)
        case atStart => exact ⟨0, Nat.zero_le _, rfl, Below.refl _ _⟩
        case round =>
          obtain ⟨k, hk, rfl, hb⟩ := hrel
          have HB := Lib.hid hb
          clear hb
          by_cases hlt : k < n4
          · obtain ⟨⟨cs, hr, hs, hx⟩, hn⟩ := Nodes_below NE.out HB.out
            obtain ⟨T, v, hrow⟩ := hn k hlt
            have q0 : wr.cell? ⟨RE, k * 3, none⟩ = some (nodeP (fE k) (bE k) 0) := hr.cellv (hx k hlt 0 (by omega))
            have q1 : wr.cell? ⟨RE, k * 3 + 1, none⟩ = some (nodeP (fE k) (bE k) 1) := hr.cellv (hx k hlt 1 (by omega))
            have q2 : wr.cell? ⟨RE, k * 3 + 2, none⟩ = some (nodeP (fE k) (bE k) 2) := hr.cellv (hx k hlt 2 (by omega))
            have hfl := flag11 (fE k) T v (bE k) _ wr hrow
            obtain ⟨x0, hx0⟩ : ∃ x, nodeP (fE k) (bE k) 0 = x := ⟨_, rfl⟩
            obtain ⟨x1, hx1⟩ : ∃ x, nodeP (fE k) (bE k) 1 = x := ⟨_, rfl⟩
            obtain ⟨x2, hx2⟩ : ∃ x, nodeP (fE k) (bE k) 2 = x := ⟨_, rfl⟩
            rw [hx0] at q0 hfl
            rw [hx1] at q1 hfl
            rw [hx2] at q2 hfl
            clear hx0 hx1 hx2 hr hs hx hn hrow
            rw [show mOf false n1 k = 0 from rfl] at hfl
            have HF := Lib.hid hfl
            clear hfl
            go_wp2_with fail
            refine HF.out.mono ?_
            rintro e w8 ⟨rfl, hb8⟩
            have HB8 := Lib.hid (HB.out.trans (hb8.mono HB.out.size))
            clear hb8 HB HF
            go_wp2_with fail
            go_roundw
            case rel => exact ⟨k + 1, by omega, by go_num, HB8.out⟩
            case measure => simp [intOf]; omega
          · obtain rfl : k = n4 := by omega
            clear hlt
            have HB0 := HB
            clear HB
            go_wp2_with fail
            go_loopw [23] (fun v23 wr => ∃ j : Nat, j ≤ n1 ∧ v23 = .int .i64 j ∧ Below w7.heap.size w7 wr) (fun v23 _ => n1 - (intOf v23).toNat)
            case atStart => exact ⟨0, Nat.zero_le _, rfl, HB0.out⟩
            case round =>
              clear HB0
              obtain ⟨j, hj, rfl, hb⟩ := hrel
              have HB := Lib.hid hb
              clear hb
              by_cases hlt : j < n1
              · obtain ⟨⟨cs, hr, hs, hx⟩, hn⟩ := Nodes_below NT.out HB.out
                obtain ⟨T, v, hrow⟩ := hn j hlt
                have q0 : wr.cell? ⟨RT, j * 3, none⟩ = some (nodeP (fT j) (bT j) 0) := hr.cellv (hx j hlt 0 (by omega))
                have q1 : wr.cell? ⟨RT, j * 3 + 1, none⟩ = some (nodeP (fT j) (bT j) 1) := hr.cellv (hx j hlt 1 (by omega))
                have q2 : wr.cell? ⟨RT, j * 3 + 2, none⟩ = some (nodeP (fT j) (bT j) 2) := hr.cellv (hx j hlt 2 (by omega))
                have hfl := flag11 (fT j) T v (bT j) 0 wr hrow
                obtain ⟨x0, hx0⟩ : ∃ x, nodeP (fT j) (bT j) 0 = x := ⟨_, rfl⟩
                obtain ⟨x1, hx1⟩ : ∃ x, nodeP (fT j) (bT j) 1 = x := ⟨_, rfl⟩
                obtain ⟨x2, hx2⟩ : ∃ x, nodeP (fT j) (bT j) 2 = x := ⟨_, rfl⟩
                rw [hx0] at q0 hfl
                rw [hx1] at q1 hfl
                rw [hx2] at q2 hfl
                clear hx0 hx1 hx2 hr hs hx hn hrow
                have HF := Lib.hid hfl
                clear hfl
                go_wp2_with fail
                refine HF.out.mono ?_
                rintro e w8 ⟨rfl, hb8⟩
                have HB8 := Lib.hid (HB.out.trans (hb8.mono HB.out.size))
                clear hb8 HB HF
                go_wp2_with fail
                go_roundw
                case rel => exact ⟨j + 1, by omega, by go_num, HB8.out⟩
                case measure => simp [intOf]; omega
              · obtain rfl : j = n1 := by omega
                go_wp2_with fail
                go_ret
                exact ⟨rfl, HW.out.trans (HB.out.mono HW.out.size)⟩
      · go_wp2_with fail
        go_loopw [21] (fun v21 wr => ∃ k : Nat, k ≤ n4 ∧ v21 = .int .i64 k ∧ Below w7.heap.size w7 wr) (fun v21 _ => n4 - (intOf v21).toNat)
        case atStart => exact ⟨0, Nat.zero_le _, rfl, Below.refl _ _⟩
        case round =>
          obtain ⟨k, hk, rfl, hb⟩ := hrel
          have HB := Lib.hid hb
          clear hb
          by_cases hlt : k < n4
          · obtain ⟨⟨cs, hr, hs, hx⟩, hn⟩ := Nodes_below NE.out HB.out
            obtain ⟨T, v, hrow⟩ := hn k hlt
            have q0 : wr.cell? ⟨RE, k * 3, none⟩ = some (nodeP (fE k) (bE k) 0) := hr.cellv (hx k hlt 0 (by omega))
            have q1 : wr.cell? ⟨RE, k * 3 + 1, none⟩ = some (nodeP (fE k) (bE k) 1) := hr.cellv (hx k hlt 1 (by omega))
            have q2 : wr.cell? ⟨RE, k * 3 + 2, none⟩ = some (nodeP (fE k) (bE k) 2) := hr.cellv (hx k hlt 2 (by omega))
            have hfl := flag11 (fE k) T v (bE k) _ wr hrow
            obtain ⟨x0, hx0⟩ : ∃ x, nodeP (fE k) (bE k) 0 = x := ⟨_, rfl⟩
            obtain ⟨x1, hx1⟩ : ∃ x, nodeP (fE k) (bE k) 1 = x := ⟨_, rfl⟩
            obtain ⟨x2, hx2⟩ : ∃ x, nodeP (fE k) (bE k) 2 = x := ⟨_, rfl⟩
            rw [hx0] at q0 hfl
            rw [hx1] at q1 hfl
            rw [hx2] at q2 hfl
            clear hx0 hx1 hx2 hr hs hx hn hrow
            rcases Nat.lt_trichotomy k n1 with h | h | h
            · have h' : ¬ n1 < k := by omega
              rw [show mOf true n1 k = 0 from by show (if true then mk n1 k else 0) = 0; rw [if_pos rfl]; exact if_pos h] at hfl
              have HF := Lib.hid hfl
              clear hfl
              go_wp2_with fail
              refine HF.out.mono ?_
              rintro e w8 ⟨rfl, hb8⟩
              have HB8 := Lib.hid (HB.out.trans (hb8.mono HB.out.size))
              clear hb8 HB HF
              go_wp2_with fail
              go_roundw
              case rel => exact ⟨k + 1, by omega, by go_num, HB8.out⟩
              case measure => simp [intOf]; omega
            · subst h
              rw [show mOf true k k = 1 from by show (if true then mk k k else 0) = 1; rw [if_pos rfl]; unfold mk; rw [if_neg (by omega), if_pos rfl]] at hfl
              have HF := Lib.hid hfl
              clear hfl
              go_wp2_with fail
              refine HF.out.mono ?_
              rintro e w8 ⟨rfl, hb8⟩
              have HB8 := Lib.hid (HB.out.trans (hb8.mono HB.out.size))
              clear hb8 HB HF
              go_wp2_with fail
              go_roundw
              case rel => exact ⟨k + 1, by omega, by go_num, HB8.out⟩
              case measure => simp [intOf]; omega
            · have h' : ¬ k = n1 := by omega
              rw [show mOf true n1 k = 2 from by show (if true then mk n1 k else 0) = 2; rw [if_pos rfl]; unfold mk; rw [if_neg (by omega), if_neg (by omega)]] at hfl
              have HF := Lib.hid hfl
              clear hfl
              go_wp2_with fail
              refine HF.out.mono ?_
              rintro e w8 ⟨rfl, hb8⟩
              have HB8 := Lib.hid (HB.out.trans (hb8.mono HB.out.size))
              clear hb8 HB HF
              go_wp2_with fail
              go_roundw
              case rel => exact ⟨k + 1, by omega, by go_num, HB8.out⟩
              case measure => simp [intOf]; omega
          · obtain rfl : k = n4 := by omega
            clear hlt
            have HB0 := HB
            clear HB
            go_wp2_with fail
            go_loopw [23] (fun v23 wr => ∃ j : Nat, j ≤ n1 ∧ v23 = .int .i64 j ∧ Below w7.heap.size w7 wr) (fun v23 _ => n1 - (intOf v23).toNat)
            case atStart => exact ⟨0, Nat.zero_le _, rfl, HB0.out⟩
            case round =>
              clear HB0
              obtain ⟨j, hj, rfl, hb⟩ := hrel
              have HB := Lib.hid hb
              clear hb
              by_cases hlt : j < n1
              · obtain ⟨⟨cs, hr, hs, hx⟩, hn⟩ := Nodes_below NT.out HB.out
                obtain ⟨T, v, hrow⟩ := hn j hlt
                have q0 : wr.cell? ⟨RT, j * 3, none⟩ = some (nodeP (fT j) (bT j) 0) := hr.cellv (hx j hlt 0 (by omega))
                have q1 : wr.cell? ⟨RT, j * 3 + 1, none⟩ = some (nodeP (fT j) (bT j) 1) := hr.cellv (hx j hlt 1 (by omega))
                have q2 : wr.cell? ⟨RT, j * 3 + 2, none⟩ = some (nodeP (fT j) (bT j) 2) := hr.cellv (hx j hlt 2 (by omega))
                have hfl := flag11 (fT j) T v (bT j) 0 wr hrow
                obtain ⟨x0, hx0⟩ : ∃ x, nodeP (fT j) (bT j) 0 = x := ⟨_, rfl⟩
                obtain ⟨x1, hx1⟩ : ∃ x, nodeP (fT j) (bT j) 1 = x := ⟨_, rfl⟩
                obtain ⟨x2, hx2⟩ : ∃ x, nodeP (fT j) (bT j) 2 = x := ⟨_, rfl⟩
                rw [hx0] at q0 hfl
                rw [hx1] at q1 hfl
                rw [hx2] at q2 hfl
                clear hx0 hx1 hx2 hr hs hx hn hrow
                have HF := Lib.hid hfl
                clear hfl
                go_wp2_with fail
                refine HF.out.mono ?_
                rintro e w8 ⟨rfl, hb8⟩
                have HB8 := Lib.hid (HB.out.trans (hb8.mono HB.out.size))
                clear hb8 HB HF
                go_wp2_with fail
                go_roundw
                case rel => exact ⟨j + 1, by omega, by go_num, HB8.out⟩
                case measure => simp [intOf]; omega
              · obtain rfl : j = n1 := by omega
                go_wp2_with fail
                go_ret
                exact ⟨rfl, HW.out.trans (HB.out.mono HW.out.size)⟩
    · have hD : D = false := by
        rw [← HD.out]
        exact decide_eq_false fun h => hp h.2.1
      subst hD
      clear HD HP
      go_wp2_with fail
      go_loopw [21] (fun v21 wr => ∃ k : Nat, k ≤ n4 ∧ v21 = .int .i64 k ∧ Below w7.heap.size w7 wr) (fun v21 _ => n4 - (intOf v21).toNat)
      case atStart => exact ⟨0, Nat.zero_le _, rfl, Below.refl _ _⟩
      case round =>
        obtain ⟨k, hk, rfl, hb⟩ := hrel
        have HB := Lib.hid hb
        clear hb
        by_cases hlt : k < n4
        · obtain ⟨⟨cs, hr, hs, hx⟩, hn⟩ := Nodes_below NE.out HB.out
          obtain ⟨T, v, hrow⟩ := hn k hlt
          have q0 : wr.cell? ⟨RE, k * 3, none⟩ = some (nodeP (fE k) (bE k) 0) := hr.cellv (hx k hlt 0 (by omega))
          have q1 : wr.cell? ⟨RE, k * 3 + 1, none⟩ = some (nodeP (fE k) (bE k) 1) := hr.cellv (hx k hlt 1 (by omega))
          have q2 : wr.cell? ⟨RE, k * 3 + 2, none⟩ = some (nodeP (fE k) (bE k) 2) := hr.cellv (hx k hlt 2 (by omega))
          have hfl := flag11 (fE k) T v (bE k) _ wr hrow
          obtain ⟨x0, hx0⟩ : ∃ x, nodeP (fE k) (bE k) 0 = x := ⟨_, rfl⟩
          obtain ⟨x1, hx1⟩ : ∃ x, nodeP (fE k) (bE k) 1 = x := ⟨_, rfl⟩
          obtain ⟨x2, hx2⟩ : ∃ x, nodeP (fE k) (bE k) 2 = x := ⟨_, rfl⟩
          rw [hx0] at q0 hfl
          rw [hx1] at q1 hfl
          rw [hx2] at q2 hfl
          clear hx0 hx1 hx2 hr hs hx hn hrow
          rw [show mOf false n1 k = 0 from rfl] at hfl
          have HF := Lib.hid hfl
          clear hfl
          go_wp2_with fail
          refine HF.out.mono ?_
          rintro e w8 ⟨rfl, hb8⟩
          have HB8 := Lib.hid (HB.out.trans (hb8.mono HB.out.size))
          clear hb8 HB HF
          go_wp2_with fail
          go_roundw
          case rel => exact ⟨k + 1, by omega, by go_num, HB8.out⟩
          case measure => simp [intOf]; omega
        · obtain rfl : k = n4 := by omega
          clear hlt
          have HB0 := HB
          clear HB
          go_wp2_with fail
          go_loopw [23] (fun v23 wr => ∃ j : Nat, j ≤ n1 ∧ v23 = .int .i64 j ∧ Below w7.heap.size w7 wr) (fun v23 _ => n1 - (intOf v23).toNat)
          case atStart => exact ⟨0, Nat.zero_le _, rfl, HB0.out⟩
          case round =>
            clear HB0
            obtain ⟨j, hj, rfl, hb⟩ := hrel
            have HB := Lib.hid hb
            clear hb
            by_cases hlt : j < n1
            · obtain ⟨⟨cs, hr, hs, hx⟩, hn⟩ := Nodes_below NT.out HB.out
              obtain ⟨T, v, hrow⟩ := hn j hlt
              have q0 : wr.cell? ⟨RT, j * 3, none⟩ = some (nodeP (fT j) (bT j) 0) := hr.cellv (hx j hlt 0 (by omega))
              have q1 : wr.cell? ⟨RT, j * 3 + 1, none⟩ = some (nodeP (fT j) (bT j) 1) := hr.cellv (hx j hlt 1 (by omega))
              have q2 : wr.cell? ⟨RT, j * 3 + 2, none⟩ = some (nodeP (fT j) (bT j) 2) := hr.cellv (hx j hlt 2 (by omega))
              have hfl := flag11 (fT j) T v (bT j) 0 wr hrow
              obtain ⟨x0, hx0⟩ : ∃ x, nodeP (fT j) (bT j) 0 = x := ⟨_, rfl⟩
              obtain ⟨x1, hx1⟩ : ∃ x, nodeP (fT j) (bT j) 1 = x := ⟨_, rfl⟩
              obtain ⟨x2, hx2⟩ : ∃ x, nodeP (fT j) (bT j) 2 = x := ⟨_, rfl⟩
              rw [hx0] at q0 hfl
              rw [hx1] at q1 hfl
              rw [hx2] at q2 hfl
              clear hx0 hx1 hx2 hr hs hx hn hrow
              have HF := Lib.hid hfl
              clear hfl
              go_wp2_with fail
              refine HF.out.mono ?_
              rintro e w8 ⟨rfl, hb8⟩
              have HB8 := Lib.hid (HB.out.trans (hb8.mono HB.out.size))
              clear hb8 HB HF
              go_wp2_with fail
              go_roundw
              case rel => exact ⟨j + 1, by omega, by go_num, HB8.out⟩
              case measure => simp [intOf]; omega
            · obtain rfl : j = n1 := by omega
              go_wp2_with fail
              go_ret
              exact ⟨rfl, HW.out.trans (HB.out.mono HW.out.size)⟩
  · have hD : D = false := by
      rw [← HD.out]
      exact decide_eq_false fun h => hr h.1
    subst hD
    have hrb : (r == r') = false := by simpa using hr
    clear HD HP hr
    go_wp2_with fail
    go_loopw [21] (fun v21 wr => ∃ k : Nat, k ≤ n4 ∧ v21 = .int .i64 k ∧ Below w7.heap.size w7 wr) (fun v21 _ => n4 - (intOf v21).toNat)
    case atStart => exact ⟨0, Nat.zero_le _, rfl, Below.refl _ _⟩
    case round =>
      obtain ⟨k, hk, rfl, hb⟩ := hrel
      have HB := Lib.hid hb
      clear hb
      by_cases hlt : k < n4
      · obtain ⟨⟨cs, hr, hs, hx⟩, hn⟩ := Nodes_below NE.out HB.out
        obtain ⟨T, v, hrow⟩ := hn k hlt
        have q0 : wr.cell? ⟨RE, k * 3, none⟩ = some (nodeP (fE k) (bE k) 0) := hr.cellv (hx k hlt 0 (by omega))
        have q1 : wr.cell? ⟨RE, k * 3 + 1, none⟩ = some (nodeP (fE k) (bE k) 1) := hr.cellv (hx k hlt 1 (by omega))
        have q2 : wr.cell? ⟨RE, k * 3 + 2, none⟩ = some (nodeP (fE k) (bE k) 2) := hr.cellv (hx k hlt 2 (by omega))
        have hfl := flag11 (fE k) T v (bE k) _ wr hrow
        obtain ⟨x0, hx0⟩ : ∃ x, nodeP (fE k) (bE k) 0 = x := ⟨_, rfl⟩
        obtain ⟨x1, hx1⟩ : ∃ x, nodeP (fE k) (bE k) 1 = x := ⟨_, rfl⟩
        obtain ⟨x2, hx2⟩ : ∃ x, nodeP (fE k) (bE k) 2 = x := ⟨_, rfl⟩
        rw [hx0] at q0 hfl
        rw [hx1] at q1 hfl
        rw [hx2] at q2 hfl
        clear hx0 hx1 hx2 hr hs hx hn hrow
        rw [show mOf false n1 k = 0 from rfl] at hfl
        have HF := Lib.hid hfl
        clear hfl
        go_wp2_with fail
        refine HF.out.mono ?_
        rintro e w8 ⟨rfl, hb8⟩
        have HB8 := Lib.hid (HB.out.trans (hb8.mono HB.out.size))
        clear hb8 HB HF
        go_wp2_with fail
        go_roundw
        case rel => exact ⟨k + 1, by omega, by go_num, HB8.out⟩
        case measure => simp [intOf]; omega
      · obtain rfl : k = n4 := by omega
        clear hlt
        have HB0 := HB
        clear HB
        go_wp2_with fail
        go_loopw [23] (fun v23 wr => ∃ j : Nat, j ≤ n1 ∧ v23 = .int .i64 j ∧ Below w7.heap.size w7 wr) (fun v23 _ => n1 - (intOf v23).toNat)
        case atStart => exact ⟨0, Nat.zero_le _, rfl, HB0.out⟩
        case round =>
          clear HB0
          obtain ⟨j, hj, rfl, hb⟩ := hrel
          have HB := Lib.hid hb
          clear hb
          by_cases hlt : j < n1
          · obtain ⟨⟨cs, hr, hs, hx⟩, hn⟩ := Nodes_below NT.out HB.out
            obtain ⟨T, v, hrow⟩ := hn j hlt
            have q0 : wr.cell? ⟨RT, j * 3, none⟩ = some (nodeP (fT j) (bT j) 0) := hr.cellv (hx j hlt 0 (by omega))
            have q1 : wr.cell? ⟨RT, j * 3 + 1, none⟩ = some (nodeP (fT j) (bT j) 1) := hr.cellv (hx j hlt 1 (by omega))
            have q2 : wr.cell? ⟨RT, j * 3 + 2, none⟩ = some (nodeP (fT j) (bT j) 2) := hr.cellv (hx j hlt 2 (by omega))
            have hfl := flag11 (fT j) T v (bT j) 0 wr hrow
            obtain ⟨x0, hx0⟩ : ∃ x, nodeP (fT j) (bT j) 0 = x := ⟨_, rfl⟩
            obtain ⟨x1, hx1⟩ : ∃ x, nodeP (fT j) (bT j) 1 = x := ⟨_, rfl⟩
            obtain ⟨x2, hx2⟩ : ∃ x, nodeP (fT j) (bT j) 2 = x := ⟨_, rfl⟩
            rw [hx0] at q0 hfl
            rw [hx1] at q1 hfl
            rw [hx2] at q2 hfl
            clear hx0 hx1 hx2 hr hs hx hn hrow
            have HF := Lib.hid hfl
            clear hfl
            go_wp2_with fail
            refine HF.out.mono ?_
            rintro e w8 ⟨rfl, hb8⟩
            have HB8 := Lib.hid (HB.out.trans (hb8.mono HB.out.size))
            clear hb8 HB HF
            go_wp2_with fail
            go_roundw
            case rel => exact ⟨j + 1, by omega, by go_num, HB8.out⟩
            case measure => simp [intOf]; omega
          · obtain rfl : j = n1 := by omega
            go_wp2_with fail
            go_ret
            exact ⟨rfl, HW.out.trans (HB.out.mono HW.out.size)⟩

end Go.Proofs.Ytjngpnijogfmdac.fnTryToInsertOptionalChainMarksExactlyTheTail
