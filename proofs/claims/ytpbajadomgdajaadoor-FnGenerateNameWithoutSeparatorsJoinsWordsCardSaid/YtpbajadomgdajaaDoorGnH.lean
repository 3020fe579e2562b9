import Derived.Test.YtpbajadomgdajaaDoorKit
import Derived.Test.YtpbajadomgdajaaDoorGnM
import Derived.Test.YtpbajadomgdajaaDoorGnG
namespace Go.Proofs.YtpbajadomgdajaaDoor
open Go.ChangeShapes Go.WideShapes Go.ChangeAt Go.RowKit
set_option linter.unusedVariables false
set_option maxRecDepth 100000
set_option maxHeartbeats 2000000

theorem lett (s : ByteArray) (i : Nat) (W : World) : Calls Tryd.prog 11 #[.int .u8 (cb s i : Int)] W fun e W' => e = .returned (.bool (isL (cb s i))) ∧ W' = W := letter11 (cb s i) W
theorem alnu (s : ByteArray) (i : Nat) (W : World) : Calls Tryd.prog 12 #[.int .u8 (cb s i : Int)] W fun e W' => e = .returned (.bool (alb (cb s i))) ∧ W' = W := alnum12 (cb s i) W
set_option maxHeartbeats 20000000 in
theorem model7 (s : ByteArray) (hs : s.size ≤ 1048576) (w : World) : Calls Tryd.prog 7 #[.string s] w (NameIs s w) := by
  obtain ⟨i0, hi, hz0, hz1, hz2⟩ := info_parts info5
  have HSZ := Lib.hid hs
  go_enter Tryd.func7, Tryd.ntmps7
  go_wp2_with fail
  go_loopw [3, 4] (fun v3 v4 wr => ∃ i : Nat, i ≤ s.size ∧ v3 = .int .i64 (-1) ∧ v4 = .int .i64 i ∧ Hid (∀ j, j < i → isL (cb s j) = false) ∧ wr = w) (fun _ v4 _ => s.size - (intOf v4).toNat)
  case atStart => exact ⟨0, by omega, rfl, rfl, Lib.hid (fun j h => by omega), rfl⟩
  case round =>
    obtain ⟨p, hpl, rfl, rfl, HL, rfl⟩ := hrel
    obtain ⟨w0, rfl⟩ : ∃ w0 : World, w0 = wr := ⟨_, rfl⟩
    by_cases hp : p < s.size
    · have hp' : (p : Int) < (s.size : Int) := by omega
      have hidx := cb_at s p hp
      go_wp2_with fail
      refine (lett s p _).mono ?_
      rintro e w1 ⟨rfl, hw⟩
      rw [hw]
      clear hw w1
      cases hb : isL (cb s p) with
      | false =>
        go_wp2_with fail
        go_roundw
        case rel =>
          refine ⟨p + 1, by omega, rfl, by go_num, Lib.hid (fun j hj => ?_), by first | rfl | trivial⟩
          by_cases e : j = p
          · subst e; exact hb
          · exact HL.out j (by omega)
        case measure => simp [intOf]; omega
      | true =>
        have I0 := Lib.hid (Inv.start s p hp hb HL.out)
        have hp0 : ¬ (p : Int) < 0 := by omega
        clear hidx hb HL hp'
        go_wp2_with fail
        go_loopw [5, 6] (fun v5 v6 wr => ∃ (i : Nat) (out : List UInt8), i ≤ s.size ∧ v6 = .int .i64 i ∧ Hid (Inv s i out) ∧ Outs w0.heap.size v5 out wr ∧ Below w0.heap.size w0 wr) (fun _ v6 _ => s.size - (intOf v6).toNat)
        case atStart => exact ⟨p, [], hpl, rfl, I0, World.ownsRow_lit w0 #[] 0 (Nat.le_refl _) (by unfold maxLen; omega) rfl, (Below.refl _ _).alloc (Nat.le_refl _) _⟩
        case round =>
          obtain ⟨i, out, hil, rfl, HI, hown, hb0⟩ := hrel
          obtain ⟨wo, rfl⟩ : ∃ wo : World, wo = wr := ⟨_, rfl⟩
          obtain ⟨base, cap, rfl⟩ := hown.shape
          have HLN := Lib.hid (HI.out.len hil)
          have HO := Lib.hid hown
          have HB := Lib.hid hb0
          clear hown hb0 I0 hp0
          by_cases hi1 : i < s.size
          · have hi1' : (i : Int) < (s.size : Int) := by omega
            go_wp2_with fail
            clear hi1'
            go_loopw [6] (fun v6 wr => ∃ i' : Nat, i ≤ i' ∧ i' ≤ s.size ∧ v6 = .int .i64 i' ∧ Hid (∀ j, i ≤ j → j < i' → alb (cb s j) = false) ∧ wr = wo) (fun v6 _ => s.size - (intOf v6).toNat)
            case atStart => exact ⟨i, Nat.le_refl _, by omega, rfl, Lib.hid (fun j h1 h2 => by omega), rfl⟩
            case round =>
              obtain ⟨i', hii, his, rfl, HS, rfl⟩ := hrel
              obtain ⟨wo, rfl⟩ : ∃ wo : World, wo = wr := ⟨_, rfl⟩
              by_cases hlt : i' < s.size
              · have hlt' : (i' : Int) < (s.size : Int) := by omega
                have hidx := cb_at s i' hlt
                go_wp2_with fail
                refine (alnu s i' _).mono ?_
                rintro e w1 ⟨rfl, hw⟩
                rw [hw]
                clear hw w1
                cases hb : alb (cb s i') with
                | false =>
                  go_wp2_with fail
                  go_roundw
                  case rel =>
                    refine ⟨i' + 1, by omega, by omega, by go_num, Lib.hid (fun j h1 h2 => ?_), by first | rfl | trivial⟩
                    by_cases e : j = i'
                    · subst e; exact hb
                    · exact HS.out j h1 (by omega)
                  case measure => simp [intOf]; omega
                | true =>
                  obtain ⟨f, hm⟩ := HI.out.mid hi1 hii his HS.out (fun _ => hb)
                  have HM := Lib.hid hm
                  have HA1 := Lib.hid hb
                  clear hm hidx HS hb
                  go_wp2_with fail
                  simp only [show decide (s.size ≤ i') = false from decide_eq_false (by omega)]
                  clear hlt'
                  go_loopw [7] (fun v7 wr => ∃ j : Nat, i' ≤ j ∧ j ≤ s.size ∧ v7 = .int .i64 j ∧ Hid (∀ m, i' ≤ m → m < j → alb (cb s m) = true) ∧ wr = wo) (fun v7 _ => s.size - (intOf v7).toNat)
                  case atStart => exact ⟨i', Nat.le_refl _, by omega, rfl, Lib.hid (fun j h1 h2 => by omega), rfl⟩
                  case round =>
                    obtain ⟨j, hij0, hjs, rfl, HA2, rfl⟩ := hrel
                    obtain ⟨wo, rfl⟩ : ∃ wo : World, wo = wr := ⟨_, rfl⟩
                    by_cases hj : j < s.size
                    · have hj' : (j : Int) < (s.size : Int) := by omega
                      have hidx := cb_at s j hj
                      go_wp2_with fail
                      refine (alnu s j _).mono ?_
                      rintro e w1 ⟨rfl, hw⟩
                      rw [hw]
                      clear hw w1
                      cases hb : alb (cb s j) with
                      | true =>
                        go_wp2_with fail
                        go_roundw
                        case rel =>
                          refine ⟨j + 1, by omega, by omega, by go_num, Lib.hid (fun m h1 h2 => ?_), by first | rfl | trivial⟩
                          by_cases e : m = j
                          · subst e; exact hb
                          · exact HA2.out m h1 (by omega)
                        case measure => simp [intOf]; omega
                      | false =>
                        have hij : i' < j := by
                          by_cases e : i' = j
                          · subst e; rw [HA1.out] at hb; exact absurd hb (by decide)
                          · omega
                        have HJ : Hid (j < s.size → alb (cb s j) = false) := Lib.hid (fun _ => hb)
                        clear hidx hb hj'
                        cases out with
                        | nil =>
                          have hl0 : ¬ (0 : Int) < ((([] : List UInt8).length : Nat) : Int) := by simp
                          have HC0 : Cp s i' i' [] := by
                            have h1 := HM.out.cp
                            have h2 := (HM.out.first rfl).1
                            simp only at h2
                            rw [h2] at h1
                            exact h1
                          go_wp2_with fail
                          go_loopw [5, 8] (fun v5 v8 wr => ∃ (k : Nat) (l5 : List UInt8), k ≤ j ∧ v8 = .int .i64 k ∧ Hid (Cp s i' k l5) ∧ Outs w0.heap.size v5 l5 wr ∧ Below w0.heap.size w0 wr) (fun _ v8 _ => j - (intOf v8).toNat)
                          case atStart => exact ⟨i', [], by omega, rfl, Lib.hid HC0, HO.out, HB.out⟩
                          case round =>
                            obtain ⟨k, l5, hkj, rfl, HC, ho5, hb5⟩ := hrel
                            have HL5 := Lib.hid (Nat.le_trans (HC.out.len (by omega)) (Nat.le_trans hkj hjs))
                            have HO5 := Lib.hid ho5
                            have HB5 := Lib.hid hb5
                            clear ho5 hb5
                            by_cases hk : k < j
                            · have hk' : (k : Int) < (j : Int) := by omega
                              have hks : k < s.size := by omega
                              have hidx := cb_at s k hks
                              go_wp2_with (at_builtin; refine wpList_append_own _ rfl _ _ 27 rfl w0.heap.size 5 i0 (.int .u8 0) 1 1 Tryd.underlying27 hi hz0 hz1 hz2 rfl (by decide) _ _ _ rfl (HO5.out.alloc _) ⟨wr.heap.size, 0, none⟩ 1 1 [.int .u8 (cb s k : Int)] rfl rfl (new_cells _ _ _ _ (by rfl)) (by simp [Value.oneCell']) (by have := HL5.out; have := HSZ.out; unfold maxLen; omega) (by have := HL5.out; have := HSZ.out; omega) (by have := HB5.out.size; simp; omega) ?_; intro v' w3 hown' hg3 _)
                              go_roundw
                              case rel => exact ⟨k + 1, l5 ++ [UInt8.ofNat (cb s k)], by omega, by go_num, Lib.hid (HC.out.step hks (HA2.out k HC.out.ge hk)), own_step (nb := [UInt8.ofNat (cb s k)]) hown' rfl rfl (by simp only [encB, List.map, u8n (cb s k) (cb_lt s k)]), (HB5.out.alloc HB5.out.size _).grown hg3 (by have := HB5.out.size; simp; omega) (fun j hj => (HO5.out.lt j hj).1)⟩
                              case measure => simp [intOf]; omega
                            · have hk' : ¬ (k : Int) < (j : Int) := by omega
                              obtain rfl : k = j := by omega
                              go_wp2_with fail
                              go_roundw
                              case rel => exact ⟨k, l5, by omega, rfl, Lib.hid (HC.out.done hij HJ.out), HO5.out, HB5.out⟩
                              case measure => simp [intOf]; omega
                        | cons y l0 =>
                          have hl0 : (0 : Int) < (((y :: l0).length : Nat) : Int) := by simp <;> omega
                          obtain ⟨l, hl⟩ : ∃ l, l = y :: l0 := ⟨_, rfl⟩
                          rw [← hl] at hl0 HO HM HLN ⊢
                          have hne : l ≠ [] := fun e => by rw [e] at hl; cases hl
                          clear hl
                          have HC0 : Cp s i' i' (l ++ [95]) := by
                            have h1 := HM.out.cp
                            have h2 := HM.out.later hne
                            simp only at h2
                            rw [h2] at h1
                            exact h1
                          go_upto_region 19 with (fail)
                          obtain ⟨v3, hv3⟩ : ∃ v3, v3 = Value.slice base l.length cap := ⟨_, rfl⟩
                          rw [← hv3] at HO ⊢
                          clear hv3
                          go_wp2_with (at_builtin; refine wpList_append_own _ rfl _ _ 27 rfl w0.heap.size 5 i0 (.int .u8 0) 1 1 Tryd.underlying27 hi hz0 hz1 hz2 rfl (by decide) _ _ _ rfl (HO.out.alloc _) ⟨wo.heap.size, 0, none⟩ 1 1 [.int .u8 95] rfl rfl (new_cells _ _ _ _ (by rfl)) (by simp [Value.oneCell']) (by have := HLN.out; have := HSZ.out; unfold maxLen; omega) (by have := HLN.out; have := HSZ.out; omega) (by have := HB.out.size; simp; omega) ?_; intro v' w3 hown' hg3 _)
                          go_loopw [5, 8] (fun v5 v8 wr => ∃ (k : Nat) (l5 : List UInt8), k ≤ j ∧ v8 = .int .i64 k ∧ Hid (Cp s i' k l5) ∧ Outs w0.heap.size v5 l5 wr ∧ Below w0.heap.size w0 wr) (fun _ v8 _ => j - (intOf v8).toNat)
                          case atStart => exact ⟨i', l ++ [95], by omega, rfl, Lib.hid HC0, own_step (nb := [95]) hown' rfl rfl rfl, (HB.out.alloc HB.out.size _).grown hg3 (by have := HB.out.size; simp; omega) (fun j hj => (HO.out.lt j hj).1)⟩
                          case round =>
                            obtain ⟨k, l5, hkj, rfl, HC, ho5, hb5⟩ := hrel
                            have HL5 := Lib.hid (Nat.le_trans (HC.out.len (by omega)) (Nat.le_trans hkj hjs))
                            have HO5 := Lib.hid ho5
                            have HB5 := Lib.hid hb5
                            clear ho5 hb5
                            by_cases hk : k < j
                            · have hk' : (k : Int) < (j : Int) := by omega
                              have hks : k < s.size := by omega
                              have hidx := cb_at s k hks
                              go_wp2_with (at_builtin; refine wpList_append_own _ rfl _ _ 27 rfl w0.heap.size 5 i0 (.int .u8 0) 1 1 Tryd.underlying27 hi hz0 hz1 hz2 rfl (by decide) _ _ _ rfl (HO5.out.alloc _) ⟨wr.heap.size, 0, none⟩ 1 1 [.int .u8 (cb s k : Int)] rfl rfl (new_cells _ _ _ _ (by rfl)) (by simp [Value.oneCell']) (by have := HL5.out; have := HSZ.out; unfold maxLen; omega) (by have := HL5.out; have := HSZ.out; omega) (by have := HB5.out.size; simp; omega) ?_; intro v' w3 hown' hg3 _)
                              go_roundw
                              case rel => exact ⟨k + 1, l5 ++ [UInt8.ofNat (cb s k)], by omega, by go_num, Lib.hid (HC.out.step hks (HA2.out k HC.out.ge hk)), own_step (nb := [UInt8.ofNat (cb s k)]) hown' rfl rfl (by simp only [encB, List.map, u8n (cb s k) (cb_lt s k)]), (HB5.out.alloc HB5.out.size _).grown hg3 (by have := HB5.out.size; simp; omega) (fun j hj => (HO5.out.lt j hj).1)⟩
                              case measure => simp [intOf]; omega
                            · have hk' : ¬ (k : Int) < (j : Int) := by omega
                              obtain rfl : k = j := by omega
                              go_wp2_with fail
                              go_roundw
                              case rel => exact ⟨k, l5, by omega, rfl, Lib.hid (HC.out.done hij HJ.out), HO5.out, HB5.out⟩
                              case measure => simp [intOf]; omega
                    · have hj' : ¬ (j : Int) < (s.size : Int) := by omega
                      have hij : i' < j := by omega
                      have HJ : Hid (j < s.size → alb (cb s j) = false) := Lib.hid (fun h => absurd h hj)
                      cases out with
                      | nil =>
                        have hl0 : ¬ (0 : Int) < ((([] : List UInt8).length : Nat) : Int) := by simp
                        have HC0 : Cp s i' i' [] := by
                          have h1 := HM.out.cp
                          have h2 := (HM.out.first rfl).1
                          simp only at h2
                          rw [h2] at h1
                          exact h1
                        go_wp2_with fail
                        go_loopw [5, 8] (fun v5 v8 wr => ∃ (k : Nat) (l5 : List UInt8), k ≤ j ∧ v8 = .int .i64 k ∧ Hid (Cp s i' k l5) ∧ Outs w0.heap.size v5 l5 wr ∧ Below w0.heap.size w0 wr) (fun _ v8 _ => j - (intOf v8).toNat)
                        case atStart => exact ⟨i', [], by omega, rfl, Lib.hid HC0, HO.out, HB.out⟩
                        case round =>
                          obtain ⟨k, l5, hkj, rfl, HC, ho5, hb5⟩ := hrel
                          have HL5 := Lib.hid (Nat.le_trans (HC.out.len (by omega)) (Nat.le_trans hkj hjs))
                          have HO5 := Lib.hid ho5
                          have HB5 := Lib.hid hb5
                          clear ho5 hb5
                          by_cases hk : k < j
                          · have hk' : (k : Int) < (j : Int) := by omega
                            have hks : k < s.size := by omega
                            have hidx := cb_at s k hks
                            go_wp2_with (at_builtin; refine wpList_append_own _ rfl _ _ 27 rfl w0.heap.size 5 i0 (.int .u8 0) 1 1 Tryd.underlying27 hi hz0 hz1 hz2 rfl (by decide) _ _ _ rfl (HO5.out.alloc _) ⟨wr.heap.size, 0, none⟩ 1 1 [.int .u8 (cb s k : Int)] rfl rfl (new_cells _ _ _ _ (by rfl)) (by simp [Value.oneCell']) (by have := HL5.out; have := HSZ.out; unfold maxLen; omega) (by have := HL5.out; have := HSZ.out; omega) (by have := HB5.out.size; simp; omega) ?_; intro v' w3 hown' hg3 _)
                            go_roundw
                            case rel => exact ⟨k + 1, l5 ++ [UInt8.ofNat (cb s k)], by omega, by go_num, Lib.hid (HC.out.step hks (HA2.out k HC.out.ge hk)), own_step (nb := [UInt8.ofNat (cb s k)]) hown' rfl rfl (by simp only [encB, List.map, u8n (cb s k) (cb_lt s k)]), (HB5.out.alloc HB5.out.size _).grown hg3 (by have := HB5.out.size; simp; omega) (fun j hj => (HO5.out.lt j hj).1)⟩
                            case measure => simp [intOf]; omega
                          · have hk' : ¬ (k : Int) < (j : Int) := by omega
                            obtain rfl : k = j := by omega
                            go_wp2_with fail
                            go_roundw
                            case rel => exact ⟨k, l5, by omega, rfl, Lib.hid (HC.out.done hij HJ.out), HO5.out, HB5.out⟩
                            case measure => simp [intOf]; omega
                      | cons y l0 =>
                        have hl0 : (0 : Int) < (((y :: l0).length : Nat) : Int) := by simp <;> omega
                        obtain ⟨l, hl⟩ : ∃ l, l = y :: l0 := ⟨_, rfl⟩
                        rw [← hl] at hl0 HO HM HLN ⊢
                        have hne : l ≠ [] := fun e => by rw [e] at hl; cases hl
                        clear hl
                        have HC0 : Cp s i' i' (l ++ [95]) := by
                          have h1 := HM.out.cp
                          have h2 := HM.out.later hne
                          simp only at h2
                          rw [h2] at h1
                          exact h1
                        go_upto_region 19 with (fail)
                        obtain ⟨v3, hv3⟩ : ∃ v3, v3 = Value.slice base l.length cap := ⟨_, rfl⟩
                        rw [← hv3] at HO ⊢
                        clear hv3
                        go_wp2_with (at_builtin; refine wpList_append_own _ rfl _ _ 27 rfl w0.heap.size 5 i0 (.int .u8 0) 1 1 Tryd.underlying27 hi hz0 hz1 hz2 rfl (by decide) _ _ _ rfl (HO.out.alloc _) ⟨wo.heap.size, 0, none⟩ 1 1 [.int .u8 95] rfl rfl (new_cells _ _ _ _ (by rfl)) (by simp [Value.oneCell']) (by have := HLN.out; have := HSZ.out; unfold maxLen; omega) (by have := HLN.out; have := HSZ.out; omega) (by have := HB.out.size; simp; omega) ?_; intro v' w3 hown' hg3 _)
                        go_loopw [5, 8] (fun v5 v8 wr => ∃ (k : Nat) (l5 : List UInt8), k ≤ j ∧ v8 = .int .i64 k ∧ Hid (Cp s i' k l5) ∧ Outs w0.heap.size v5 l5 wr ∧ Below w0.heap.size w0 wr) (fun _ v8 _ => j - (intOf v8).toNat)
                        case atStart => exact ⟨i', l ++ [95], by omega, rfl, Lib.hid HC0, own_step (nb := [95]) hown' rfl rfl rfl, (HB.out.alloc HB.out.size _).grown hg3 (by have := HB.out.size; simp; omega) (fun j hj => (HO.out.lt j hj).1)⟩
                        case round =>
                          obtain ⟨k, l5, hkj, rfl, HC, ho5, hb5⟩ := hrel
                          have HL5 := Lib.hid (Nat.le_trans (HC.out.len (by omega)) (Nat.le_trans hkj hjs))
                          have HO5 := Lib.hid ho5
                          have HB5 := Lib.hid hb5
                          clear ho5 hb5
                          by_cases hk : k < j
                          · have hk' : (k : Int) < (j : Int) := by omega
                            have hks : k < s.size := by omega
                            have hidx := cb_at s k hks
                            go_wp2_with (at_builtin; refine wpList_append_own _ rfl _ _ 27 rfl w0.heap.size 5 i0 (.int .u8 0) 1 1 Tryd.underlying27 hi hz0 hz1 hz2 rfl (by decide) _ _ _ rfl (HO5.out.alloc _) ⟨wr.heap.size, 0, none⟩ 1 1 [.int .u8 (cb s k : Int)] rfl rfl (new_cells _ _ _ _ (by rfl)) (by simp [Value.oneCell']) (by have := HL5.out; have := HSZ.out; unfold maxLen; omega) (by have := HL5.out; have := HSZ.out; omega) (by have := HB5.out.size; simp; omega) ?_; intro v' w3 hown' hg3 _)
                            go_roundw
                            case rel => exact ⟨k + 1, l5 ++ [UInt8.ofNat (cb s k)], by omega, by go_num, Lib.hid (HC.out.step hks (HA2.out k HC.out.ge hk)), own_step (nb := [UInt8.ofNat (cb s k)]) hown' rfl rfl (by simp only [encB, List.map, u8n (cb s k) (cb_lt s k)]), (HB5.out.alloc HB5.out.size _).grown hg3 (by have := HB5.out.size; simp; omega) (fun j hj => (HO5.out.lt j hj).1)⟩
                            case measure => simp [intOf]; omega
                          · have hk' : ¬ (k : Int) < (j : Int) := by omega
                            obtain rfl : k = j := by omega
                            go_wp2_with fail
                            go_roundw
                            case rel => exact ⟨k, l5, by omega, rfl, Lib.hid (HC.out.done hij HJ.out), HO5.out, HB5.out⟩
                            case measure => simp [intOf]; omega
              · have hlt' : ¬ (i' : Int) < (s.size : Int) := by omega
                obtain ⟨f, hm⟩ := HI.out.mid hi1 hii his HS.out (fun h => absurd h hlt)
                obtain ⟨d1, d2⟩ := hm.done (by omega) HI.out hi1 HS.out
                have hcv := HO.out.conv d2
                have HD := Lib.hid d1
                clear hm d1
                go_wp2_with fail
                go_ret
                exact ⟨by rw [HD.out]; rfl, HB.out⟩
          · have hi1' : ¬ (i : Int) < (s.size : Int) := by omega
            obtain rfl : i = s.size := by omega
            obtain ⟨d1, d2⟩ := HI.out.done
            have hcv := HO.out.conv d2
            have HD := Lib.hid d1
            clear d1
            go_wp2_with fail
            go_ret
            exact ⟨by rw [HD.out]; rfl, HB.out⟩
    · have hp' : ¬ (p : Int) < (s.size : Int) := by omega
      go_wp2_with fail
      go_ret
      exact ⟨by rw [gname_none s (fun j hj => HL.out j (by omega))]; rfl, Below.refl _ _⟩

end Go.Proofs.YtpbajadomgdajaaDoor
