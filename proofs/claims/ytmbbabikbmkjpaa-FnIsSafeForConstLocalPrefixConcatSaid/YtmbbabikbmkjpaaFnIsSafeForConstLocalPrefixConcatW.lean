import Derived.Test.YtmbbabikbmkjpaaKit
import Derived.Test.YtmbbabikbmkjpaaIsE
namespace Go.Proofs.Ytmbbabikbmkjpaa.fnIsSafeForConstLocalPrefixConcat
open Go.ChangeShapes Go.WideShapes Go.ChangeAt Go.RowKit
set_option linter.unusedVariables false
set_option maxRecDepth 100000
set_option maxHeartbeats 2000000

theorem info5 : (Try.prog.info? 5).map (fun i => (i.zero, i.size, i.bytes)) = some (some (.int .u8 0), 1, 1) := by kernel_rfl
def u8s (z : Nat → Int) (k : Nat) : List Value := (List.range k).map fun i => .int .u8 (z i)
theorem u8s_succ (z : Nat → Int) (k : Nat) : u8s z (k + 1) = u8s z k ++ [.int .u8 (z k)] := by simp [u8s, List.range_succ]
theorem u8s_len (z : Nat → Int) (k : Nat) : (u8s z k).length = k := by simp [u8s]
/-- Both lists, one behind the other. -/
def both (z0 z1 : Nat → Int) (n0 : Nat) (i : Nat) : Int := if i < n0 then z0 i else z1 (i - n0)
theorem u8s_both (z0 z1 : Nat → Int) (n0 k : Nat) : u8s (both z0 z1 n0) (n0 + k) = u8s z0 n0 ++ u8s z1 k := by
  apply List.ext_getElem?
  intro i
  simp only [u8s, List.getElem?_map, List.getElem?_append, List.length_map, List.length_range]
  by_cases h : i < n0
  · rw [if_pos h, List.getElem?_range (by omega), List.getElem?_range h]
    simp [both, h]
  · rw [if_neg h]
    by_cases h2 : i - n0 < k
    · rw [List.getElem?_range (by omega), List.getElem?_range h2]
      simp [both, h]
    · rw [List.getElem?_eq_none (by simp; omega), List.getElem?_eq_none (by simp; omega)]
      rfl
theorem all_both (B : Int → Bool) (z0 z1 : Nat → Int) (n0 n1 : Nat) : ((List.range (n0 + n1)).all fun i => B (both z0 z1 n0 i)) = (((List.range n0).all fun i => B (z0 i)) && ((List.range n1).all fun i => B (z1 i))) := by
  rw [Bool.eq_iff_iff, Bool.and_eq_true, List.all_eq_true, List.all_eq_true, List.all_eq_true]
  simp only [List.mem_range]
  constructor
  · intro h
    refine ⟨fun i hi => ?_, fun i hi => ?_⟩
    · have := h i (by omega)
      simpa [both, hi] using this
    · have := h (n0 + i) (by omega)
      rw [show both z0 z1 n0 (n0 + i) = z1 i by unfold both; rw [if_neg (by omega), Nat.add_sub_cancel_left]] at this
      exact this
  · rintro ⟨h0, h1⟩ i hi
    by_cases h : i < n0
    · simpa [both, h] using h0 i h
    · have := h1 (i - n0) (by omega)
      simpa [both, h] using this

theorem shape {w : World} {B e size n : Nat} {v : Value} {xs : List Value} (h : w.ownsRow B e size v n xs) : ∃ a c, v = .slice a n c := by
  rcases h.2 with ⟨rfl, rfl⟩ | ⟨g, cap, cur, rfl, _⟩
  · exact ⟨_, _, rfl⟩
  · exact ⟨_, _, rfl⟩
theorem own_base {w : World} {B n g E s : Nat} {v : Value} {xs : List Value} (h : w.ownsRow B E s v n xs) (hg : v.ownBlock = some g) : B ≤ g := by
  rcases h.2 with ⟨rfl, _⟩ | ⟨g', cap, cur, rfl, hb, hh, _⟩
  · cases hg
  · have : g' = g := by simpa [Value.ownBlock] using hg
    subst this
    exact hb
theorem own_cds {w : World} {B n c : Nat} {a : Option Addr} {z : Nat → Int} (h : w.ownsRow B 5 1 (.slice a n c) n (u8s z n)) (hz : ∀ i, i < n → codes (z i)) : Cds w a n z := fun i hi => by
  rcases h.2 with ⟨_, h0⟩ | ⟨g, cap, cur, hv, hB, hh, h4, h5, h6, h7⟩
  · omega
  · injection hv with hv _ _
    subst hv
    refine ⟨_, rfl, ?_, hz i hi⟩
    rw [addr_add, Nat.zero_add]
    have hr : RowAt w g cur 5 := hh
    refine hr.cellv ?_
    have e : (cur.toList.take (n * 1))[i]? = (u8s z n)[i]? := by rw [h7]
    rw [List.getElem?_take, if_pos (by omega)] at e
    have e2 : (u8s z n)[i]? = some (.int .u8 (z i)) := by simp [u8s, hi]
    rw [e2] at e
    simpa using e

set_option maxHeartbeats 8000000 in
theorem walkIn (a0 a1 a2 : Option Addr) (n0 n1 n2 c0 c1 c2 : Nat) (z0 z1 z2 : Nat → Int) (w : World) (h0 : n0 ≤ 65536) (h1 : n1 ≤ 65536) (h2 : n2 ≤ 65536) (d0 : Cds w a0 n0 z0) (d1 : Cds w a1 n1 z1) (d2 : Cds w a2 n2 z2) :
    Calls Try.prog 5 #[.slice a0 n0 c0, .slice a1 n1 c1, .slice a2 n2 c2] w fun e w' => e = .returned (.bool true) ∧ Below w.heap.size w w' := by
  obtain ⟨i0, hi, hz0, hz1, hz2⟩ := info_parts info5
  have D0 := Lib.hid d0
  have D1 := Lib.hid d1
  have D2 := Lib.hid d2
  clear d0 d1 d2
  go_enter Try.func5, Try.ntmps5
  go_wp2_with fail
  refine (zb18 _ _ _ _ _ _ _ _ _ _ (by omega) (by omega) (by omega)).mono ?_
  rintro e u ⟨b, rfl, rfl⟩
  cases b
  · go_wp2_with fail
    go_ret
    exact ⟨rfl, Below.refl _ _⟩
  go_wp2_with fail
  refine (count19 a0 n0 c0 z0 _ h0 D0.out).mono ?_
  rintro e u ⟨q0, hq0, rfl, rfl⟩
  go_wp2_with fail
  refine (count19 a1 n1 c1 z1 _ h1 D1.out).mono ?_
  rintro e u ⟨q1, hq1, rfl, rfl⟩
  have hm0 : (0 : Int) ≤ ((q0 : Int) + q1 + 1) * n2 := Int.mul_nonneg (by omega) (by omega)
  have hm1 : ((q0 : Int) + q1 + 1) * n2 ≤ 8590000128 := by
    have e1 : ((q0 : Int) + q1 + 1) * n2 ≤ 131073 * n2 := Int.mul_le_mul_of_nonneg_right (by omega) (by omega)
    omega
  by_cases hbig : 524288 < ((q0 : Int) + q1 + 1) * n2
  · go_wp2_with fail
    go_ret
    exact ⟨rfl, Below.refl _ _⟩
  go_wp2_with fail
  refine (arr20 a2 n2 c2 z2 _ (by omega) D2.out).mono ?_
  rintro e w1 ⟨u0, rfl, hs0, hb1⟩
  obtain ⟨bn, hbn⟩ : ∃ bn, ((List.range n2).all fun i => flatB (z2 i)) = bn := ⟨_, rfl⟩
  rw [hbn] at hs0
  have HS0 := Lib.hid hs0
  have HB1 := Lib.hid hb1
  have D0a := Lib.hid (D0.out.later hb1)
  have D1a := Lib.hid (D1.out.later hb1)
  clear hs0 hb1 hbn D0 D1 D2 hm0 hm1 hbig hq0 hq1
  go_wp2_with (at_make; refine wpList_make_own _ rfl _ _ 51 rfl (w1.heap.size + 1) 5 i0 _ 1 Try.underlying51 hi hz0 hz1 .i64 .i64 _ (n0 + n1) rfl rfl (by first | rfl | omega | simp) (by rw [hz2]; omega) (by unfold maxLen; omega) (by go_size) ?_)
  intro w2 hown hgrow
  have hp : RowAt w2 w1.heap.size #[.iface 61 (.pointer (some ⟨u0, 0, none⟩)), .int .i32 0] 57 := (hgrow.block _ (by simp) (by simp)).trans (RowAt.new w1 _ _)
  have hb12 : Below w1.heap.size w1 w2 := Below.grown (show Below w1.heap.size w1 (w1.alloc (.cells #[.iface 61 (.pointer (some ⟨u0, 0, none⟩)), .int .i32 0] 57)) by go_grown) hgrow (by go_size) (fun k hk => by cases hk)
  have HP := Lib.hid hp
  have HO := Lib.hid hown
  have HB12 := Lib.hid hb12
  have hzp := hp.lt
  clear hown hgrow hb12 hp
  go_wp2_with fail
  go_loopw [8, 9] (fun v8 v9 wr => ∃ (k : Nat) (a8 : Option Addr) (c8 : Nat), k ≤ n0 ∧ v9 = .int .i64 (k : Int) ∧ v8 = .slice a8 k c8 ∧ wr.ownsRow (w1.heap.size + 1) 5 1 (.slice a8 k c8) k (u8s z0 k) ∧ Below (w1.heap.size + 1) w2 wr) (fun _ v9 _ => n0 - (intOf v9).toNat)
  case atStart => exact ⟨0, _, _, Nat.zero_le _, rfl, rfl, HO.out, Below.refl _ _⟩
  case round =>
    clear HO
    obtain ⟨k, a8, c8, hk, rfl, rfl, ho, hb⟩ := hrel
    have HOW := Lib.hid ho
    have HB := Lib.hid hb
    have hbz := hb.size
    have BW := Lib.hid (HB12.out.trans (hb.mono (by omega)))
    clear ho hb
    by_cases hlt : k < n0
    · obtain ⟨x, rfl, hc, hcd⟩ := D0a.out k hlt
      have hc' := later hc BW.out
      obtain ⟨v, hv⟩ : ∃ v, z0 k = v := ⟨_, rfl⟩
      rw [hv] at hc'
      have HV := Lib.hid hv
      clear hc hcd hv
      go_wp2_with (at_builtin; refine wpList_append_own _ rfl (.tmp 58) (.tmp 63) 51 rfl (w1.heap.size + 1) 5 i0 _ 1 1 Try.underlying51 hi hz0 hz1 hz2 rfl (by decide) _ _ _ rfl (HOW.out.alloc _) ⟨wr.heap.size, 0, none⟩ 1 1 [.int .u8 v] rfl rfl (cell_one_new _ _ _) ?_ ?_ ?_ ?_ ?_)
      · intro y hy
        simp at hy
        subst hy
        rfl
      · unfold maxLen; omega
      · omega
      · go_size
      intro v' w4 ho4 hg4 _
      obtain ⟨a4, c4, rfl⟩ := shape ho4
      have HO4 := Lib.hid ho4
      have HB4 : Hid (Below (w1.heap.size + 1) w2 w4) := Below.grown (Below.alloc HB.out (by omega) _) hg4 (by go_size) (fun j hj => own_base HOW.out hj)
      clear ho4 hg4 HOW
      go_wp2_with fail
      go_roundw
      case rel => exact ⟨k + 1, a4, c4, by omega, by go_num, rfl, by rw [u8s_succ, HV.out]; exact HO4.out, HB4.out⟩
      case measure => simp [intOf]; omega
    obtain rfl : k = n0 := by omega
    clear hlt
    have HK : Hid (∃ N, N = k + 0) := ⟨_, rfl⟩
    have HOS : Hid (wr.ownsRow (w1.heap.size + 1) 5 1 (.slice a8 (k + 0) c8) (k + 0) (u8s (both z0 z1 k) (k + 0))) := by
      have h := HOW.out
      show wr.ownsRow _ _ _ _ _ _
      rw [u8s_both]
      simpa [u8s] using h
    have HBS := HB
    clear HOW HB BW hbz
    go_wp2_with fail
    go_loopw [8, 10] (fun v8 v10 wr => ∃ (q : Nat) (a8 : Option Addr) (c8 : Nat), q ≤ n1 ∧ v10 = .int .i64 (q : Int) ∧ v8 = .slice a8 (k + q) c8 ∧ wr.ownsRow (w1.heap.size + 1) 5 1 (.slice a8 (k + q) c8) (k + q) (u8s (both z0 z1 k) (k + q)) ∧ Below (w1.heap.size + 1) w2 wr) (fun _ v10 _ => n1 - (intOf v10).toNat)
    case atStart => exact ⟨0, _, _, Nat.zero_le _, rfl, rfl, HOS.out, HBS.out⟩
    case round =>
      clear HOS HBS HK
      obtain ⟨q, a8, c8, hq, rfl, rfl, ho, hb⟩ := hrel
      have HOW := Lib.hid ho
      have HB := Lib.hid hb
      have hbz := hb.size
      have BW := Lib.hid (HB12.out.trans (hb.mono (by omega)))
      clear ho hb
      by_cases hlt : q < n1
      · obtain ⟨x, rfl, hc, hcd⟩ := D1a.out q hlt
        have hc' := later hc BW.out
        obtain ⟨v, hv⟩ : ∃ v, z1 q = v := ⟨_, rfl⟩
        rw [hv] at hc'
        have HV := Lib.hid hv
        clear hc hcd hv
        go_wp2_with (at_builtin; refine wpList_append_own _ rfl (.tmp 71) (.tmp 76) 51 rfl (w1.heap.size + 1) 5 i0 _ 1 1 Try.underlying51 hi hz0 hz1 hz2 rfl (by decide) _ _ _ rfl (HOW.out.alloc _) ⟨wr.heap.size, 0, none⟩ 1 1 [.int .u8 v] rfl rfl (cell_one_new _ _ _) ?_ ?_ ?_ ?_ ?_)
        · intro y hy
          simp at hy
          subst hy
          rfl
        · unfold maxLen; omega
        · omega
        · go_size
        intro v' w4 ho4 hg4 _
        obtain ⟨a4, c4, rfl⟩ := shape ho4
        have HO4 := Lib.hid ho4
        have HB4 : Hid (Below (w1.heap.size + 1) w2 w4) := Below.grown (Below.alloc HB.out (by omega) _) hg4 (by go_size) (fun j hj => own_base HOW.out hj)
        clear ho4 hg4 HOW
        go_wp2_with fail
        go_roundw
        case rel => exact ⟨q + 1, a4, c4, by omega, by go_num, rfl, by
          have e : u8s (both z0 z1 k) (k + (q + 1)) = u8s (both z0 z1 k) (k + q) ++ [.int .u8 v] := by
            rw [show k + (q + 1) = (k + q) + 1 by omega, u8s_succ, show both z0 z1 k (k + q) = v by unfold both; rw [if_neg (by omega), Nat.add_sub_cancel_left]; exact HV.out]
          rw [e]
          exact HO4.out, HB4.out⟩
        case measure => simp [intOf]; omega
      obtain rfl : q = n1 := by omega
      clear hlt hi hz0 hz1 hz2
      have D2 : Hid (Cds wr a8 (k + q) (both z0 z1 k)) := own_cds HOW.out fun i hi => by
        unfold both
        split
        · rename_i h
          obtain ⟨_, _, _, h'⟩ := D0a.out i h
          exact h'
        · obtain ⟨_, _, _, h'⟩ := D1a.out (i - k) (by omega)
          exact h'
      have D0 := Lib.hid (D0a.out.later BW.out)
      have D1 := Lib.hid (D1a.out.later BW.out)
      have HS := Lib.hid (HS0.out.kept (FrX.below BW.out))
      have HBW := Lib.hid (HB1.out.trans (BW.out.mono HB1.out.size))
      have r7 := HP.out.below HB.out (by omega)
      have p0 := r7.cellv (j := 0) (v := .iface 61 (.pointer (some ⟨u0, 0, none⟩))) rfl
      have p1 := r7.cellv (j := 1) (v := .int .i32 0) rfl
      have lp := r7.lt
      have HP7 := Lib.hid r7
      clear HOW HB BW D0a D1a HS0 HB1 HP HB12 r7
      go_wp2_with fail
      refine (arr21 a0 k c0 u0 bn z0 _ (by omega) D0.out HS.out).mono ?_
      rintro e w4 ⟨uA, rfl, hsA, hb4⟩
      obtain ⟨sa, hsa⟩ : ∃ b, ((List.range k).all fun i => itB bn (z0 i)) = b := ⟨_, rfl⟩
      rw [hsa] at hsA
      have SA := Lib.hid hsa
      have HSA_4 := Lib.hid hsA
      have HW_4 := Lib.hid (HBW.out.trans (hb4.mono HBW.out.size))
      have HP_4 := Lib.hid (HP7.out.below hb4 HP7.out.lt)
      have HS_4 := Lib.hid (HS.out.kept (FrX.below hb4))
      have D1_4 := Lib.hid (D1.out.later hb4)
      have D2_4 := Lib.hid (D2.out.later hb4)
      have z4 := hb4.size
      clear hsA hsa hb4 p0 p1 D0 D1 D2 HS HP7 HBW
      go_wp2_with fail
      refine (wrap22 uA sa _ (HSA_4.out.kept (FrX.below (by go_grown)))).mono ?_
      rintro e w5 ⟨rfl, hb5⟩
      have z5 := hb5.size
      simp at z5
      have B45 : Hid (Below w4.heap.size w4 w5) := Below.trans (by go_grown) (hb5.mono (by simp))
      have RA_5 := Lib.hid ((RowAt.new w4 #[.iface 61 (.pointer (some ⟨uA, 0, none⟩)), .int .i32 0] 57).below hb5 (by simp))
      have HP_5 := Lib.hid (HP_4.out.below B45.out (by have := HP_4.out.lt; omega))
      have HS_5 := Lib.hid (HS_4.out.kept (FrX.below B45.out))
      have HSA_5 := Lib.hid (HSA_4.out.kept (FrX.below B45.out))
      have D1_5 := Lib.hid (D1_4.out.later B45.out)
      have D2_5 := Lib.hid (D2_4.out.later B45.out)
      have HW_5 := Lib.hid (HW_4.out.trans (B45.out.mono HW_4.out.size))
      clear hb5 B45 HP_4 HS_4 HSA_4 D1_4 D2_4 HW_4
      have p0 := HP_5.out.cellv (j := 0) (v := .iface 61 (.pointer (some ⟨u0, 0, none⟩))) rfl
      have p1 := HP_5.out.cellv (j := 1) (v := .int .i32 0) rfl
      go_wp2_with fail
      refine (arr21 a1 q c1 u0 bn z1 _ (by omega) D1_5.out HS_5.out).mono ?_
      rintro e w6 ⟨uB, rfl, hsB, hb6⟩
      obtain ⟨sb, hsb⟩ : ∃ b, ((List.range q).all fun i => itB bn (z1 i)) = b := ⟨_, rfl⟩
      rw [hsb] at hsB
      have SB := Lib.hid hsb
      have HSB := Lib.hid hsB
      have B56 := Lib.hid hb6
      have z6 := hb6.size
      clear hsB hsb hb6 p0 p1
      have HP_6 := Lib.hid (HP_5.out.below B56.out (by have := HP_5.out.lt; omega))
      have RA_6 := Lib.hid (RA_5.out.below B56.out (by have := RA_5.out.lt; omega))
      have HS_6 := Lib.hid (HS_5.out.kept (FrX.below B56.out))
      have HSA_6 := Lib.hid (HSA_5.out.kept (FrX.below B56.out))
      have D2_6 := Lib.hid (D2_5.out.later B56.out)
      have HW_6 := Lib.hid (HW_5.out.trans (B56.out.mono HW_5.out.size))
      clear B56 HP_5 RA_5 HS_5 HSA_5 D1_5 D2_5 HW_5
      go_wp2_with fail
      refine (wrap22 uB sb _ HSB.out).mono ?_
      rintro e w7 ⟨rfl, hb7⟩
      have B67 := Lib.hid hb7
      have z7 := hb7.size
      clear hb7 HSB
      have HP_7 := Lib.hid (HP_6.out.below B67.out (by have := HP_6.out.lt; omega))
      have RA_7 := Lib.hid (RA_6.out.below B67.out (by have := RA_6.out.lt; omega))
      have HS_7 := Lib.hid (HS_6.out.kept (FrX.below B67.out))
      have HSA_7 := Lib.hid (HSA_6.out.kept (FrX.below B67.out))
      have D2_7 := Lib.hid (D2_6.out.later B67.out)
      have HW_7 := Lib.hid (HW_6.out.trans (B67.out.mono HW_6.out.size))
      clear B67 HP_6 RA_6 HS_6 HSA_6 D2_6 HW_6
      have p0 := HP_7.out.cellv (j := 0) (v := .iface 61 (.pointer (some ⟨u0, 0, none⟩))) rfl
      have p1 := HP_7.out.cellv (j := 1) (v := .int .i32 0) rfl
      go_wp2_with fail
      refine (arr21 a8 (k + q) c8 u0 bn (both z0 z1 k) _ (by omega) D2_7.out HS_7.out).mono ?_
      rintro e w8 ⟨uC, rfl, hsC, hb8⟩
      rw [all_both (itB bn), SA.out, SB.out] at hsC
      have HSC := Lib.hid hsC
      have B78 := Lib.hid hb8
      have z8 := hb8.size
      clear hsC hb8 p0 p1
      have RA_8 := Lib.hid (RA_7.out.below B78.out (by have := RA_7.out.lt; omega))
      have HSA_8 := Lib.hid (HSA_7.out.kept (FrX.below B78.out))
      have HW_8 := Lib.hid (HW_7.out.trans (B78.out.mono HW_7.out.size))
      clear B78 HP_7 RA_7 HS_7 HSA_7 D2_7 HW_7
      go_wp2_with fail
      refine (wrap22 uC (sa && sb) _ HSC.out).mono ?_
      rintro e w9 ⟨rfl, hb9⟩
      have B89 := Lib.hid hb9
      have z9 := hb9.size
      clear hb9 HSC
      have RA_9 := Lib.hid (RA_8.out.below B89.out (by have := RA_8.out.lt; omega))
      have HSA_9 := Lib.hid (HSA_8.out.kept (FrX.below B89.out))
      have HW_9 := Lib.hid (HW_8.out.trans (B89.out.mono HW_8.out.size))
      have r0 := RA_9.out.cellv (j := 0) (v := .iface 61 (.pointer (some ⟨uA, 0, none⟩))) rfl
      have r1 := RA_9.out.cellv (j := 1) (v := .int .i32 0) rfl
      have lr := RA_9.out.lt
      clear B89 RA_8 HSA_8 HW_8 SA SB
      have HWR : Hid (∀ (R n : Nat) (W W' : World) (rest : List Value), Below w9.heap.size w9 W → w9.heap.size ≤ R → RowAt W R #[.iface 61 (.pointer (some ⟨uA, 0, none⟩)), .int .i32 0] 57 → RowAt W n (#[.slice (some ⟨R, 0, none⟩) 1 1] ++ rest.toArray) 64 → Safe (fun _ => False) W 61 n sa) := fun R n W W' rest hb hR hr hn => by
        have h : Bld (fun j => j = R) W R 1 1 (fun _ => sa) := ⟨_, fun _ => 61, fun _ => uA, hr, rfl, fun i hi => by
          obtain rfl : i = 0 := by omega
          exact ⟨rfl, rfl⟩, fun i hi => (HSA_9.out.far (fun j hj => by rw [hj]; exact hR)).kept (FrX.below hb)⟩
        have := h.done rfl (by omega) hn
        simpa using this
      cases sa <;> cases sb
      all_goals
        go_wp2_with fail
        refine (wrap22 _ _ _ (HWR.out w9.heap.size (w9.heap.size + 1) _ w9 [.int .i32 0, .int .i32 0, .bool false, .bool false] (by go_grown) (Nat.le_refl _) ?_ ?_)).mono ?_
        · exact ((RowAt.new w9 _ _).alloc _).alloc _
        · exact (RowAt.newAt (by simp)).alloc _
        rintro e w10 ⟨rfl, hb10⟩
        have HE : Hid (Below w.heap.size w w10) := HW_9.out.trans (Below.mono (Below.trans (by go_grown) (hb10.mono (by go_size))) HW_9.out.size)
        clear hb10
        go_wp2_with fail
        go_ret
        exact ⟨rfl, HE.out⟩

theorem early (a0 a1 a2 : Option Addr) (n0 n1 n2 c0 c1 c2 : Nat) (w : World) (h0 : n0 ≤ 9223372036854775807) (h1 : n1 ≤ 9223372036854775807) (h2 : n2 ≤ 9223372036854775807) (h : 65536 < n0 ∨ 65536 < n1 ∨ 65536 < n2) :
    Calls Try.prog 5 #[.slice a0 n0 c0, .slice a1 n1 c1, .slice a2 n2 c2] w fun e w' => e = .returned (.bool true) ∧ Below w.heap.size w w' := by
  by_cases q0 : 65536 < n0
  · clear h
    go_enter Try.func5, Try.ntmps5
    go_wp2_with fail
    refine (zb18 _ _ _ _ _ _ _ _ _ _ h0 h1 h2).mono ?_
    rintro e u ⟨b, rfl, rfl⟩
    cases b <;> go_wp2 <;> go_ret <;> exact ⟨rfl, Below.refl _ _⟩
  by_cases q1 : 65536 < n1
  · clear h
    go_enter Try.func5, Try.ntmps5
    go_wp2_with fail
    refine (zb18 _ _ _ _ _ _ _ _ _ _ h0 h1 h2).mono ?_
    rintro e u ⟨b, rfl, rfl⟩
    cases b <;> go_wp2 <;> go_ret <;> exact ⟨rfl, Below.refl _ _⟩
  have q2 : 65536 < n2 := by omega
  clear h
  go_enter Try.func5, Try.ntmps5
  go_wp2_with fail
  refine (zb18 _ _ _ _ _ _ _ _ _ _ h0 h1 h2).mono ?_
  rintro e u ⟨b, rfl, rfl⟩
  cases b <;> go_wp2 <;> go_ret <;> exact ⟨rfl, Below.refl _ _⟩

theorem row_len {k : IntKind} {w : World} {a : Option Addr} {len cap : Nat} {zs : List Int} (h : IsRow k w a len cap zs) : len ≤ 9223372036854775807 := by
  rcases h with ⟨rfl, rfl, rfl, rfl⟩ | ⟨x, rfl, hl, hm, hz, hcell, hwz⟩
  · omega
  · unfold maxLen at hm; omega
theorem row_cds {w : World} {a : Option Addr} {len cap : Nat} {zs : List Int} (h : IsRow .u8 w a len cap zs) : Cds w a len (fun i => zs.getD i 0) := fun i hi => by
  rcases h with ⟨rfl, rfl, rfl, rfl⟩ | ⟨x, rfl, hl, hm, hz, hcell, hwz⟩
  · omega
  · refine ⟨x, rfl, hcell i (by omega), ?_⟩
    have hi' : i < zs.length := by omega
    show codes (zs.getD i 0)
    have e : zs.getD i 0 = zs[i] := by simp [List.getD, List.getElem?_eq_getElem hi']
    rw [e]
    have := bounds_u8 (hwz _ (List.getElem_mem hi'))
    exact this

theorem walk (a0 : Option Addr) (len0 cap0 : Nat) (z0 : List Int) (a1 : Option Addr) (len1 cap1 : Nat) (z1 : List Int) (a2 : Option Addr) (len2 cap2 : Nat) (z2 : List Int) (w : World) (w0 : IsRow .u8 w a0 len0 cap0 z0) (w1 : IsRow .u8 w a1 len1 cap1 z1) (w2 : IsRow .u8 w a2 len2 cap2 z2) :
    Calls Try.prog 5 #[.slice a0 len0 cap0, .slice a1 len1 cap1, .slice a2 len2 cap2] w fun e w' => e = .returned (.bool true) ∧ Below w.heap.size w w' := by
  by_cases h : 65536 < len0 ∨ 65536 < len1 ∨ 65536 < len2
  · exact early a0 a1 a2 len0 len1 len2 cap0 cap1 cap2 w (row_len w0) (row_len w1) (row_len w2) h
  · exact walkIn a0 a1 a2 len0 len1 len2 cap0 cap1 cap2 _ _ _ w (by omega) (by omega) (by omega) (row_cds w0) (row_cds w1) (row_cds w2)

end Go.Proofs.Ytmbbabikbmkjpaa.fnIsSafeForConstLocalPrefixConcat
