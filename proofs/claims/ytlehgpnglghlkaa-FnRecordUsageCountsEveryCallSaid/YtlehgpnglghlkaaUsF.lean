import Derived.Test.YtlehgpnglghlkaaKit
import Derived.Test.YtlehgpnglghlkaaUsE
namespace Go.Proofs.Ytlehgpnglghlkaa.fnRecordUsageCountsEveryCall
open Go.ChangeShapes Go.WideShapes Go.ChangeAt Go.RowKit
set_option linter.unusedVariables false
set_option maxRecDepth 100000
set_option maxHeartbeats 2000000

/-- How often i is among the first j. -/
def cAt (z : List Int) : Nat → Nat → Nat
  | 0 => fun _ => 0
  | j + 1 => bump (cAt z j) (z.getD j 0).toNat

theorem cAt_le (z : List Int) : ∀ j i, cAt z j i ≤ j
  | 0, _ => Nat.le_refl _
  | j + 1, i => by
    rw [cAt]
    unfold bump
    have := cAt_le z j
    by_cases e : i = (z.getD j 0).toNat
    · rw [if_pos e]
      have := this (z.getD j 0).toNat
      omega
    · rw [if_neg e]
      have := this i
      omega

theorem Made.later {w w' : World} {p S T Z q m n : Nat} {dead ts part : Bool} {c : Nat → Nat} (h : Made w p S T Z q m n dead ts part c) (hk : ∀ j, j < w.heap.size → w'.heap[j]? = w.heap[j]?) : Made w' p S T Z q m n dead ts part c := by
  obtain ⟨h1, h2, h3, h9⟩ := h
  refine ⟨h1.later hk, h2, fun e => ?_, h9⟩
  obtain ⟨e1, ⟨cs, r1, r2⟩, h4⟩ := h3 e
  exact ⟨e1, ⟨cs, r1.kept (hk _ r1.lt), r2⟩, h4.kept (hk _ h4.lt)⟩

theorem Made.step {w w' : World} {p S T Z q m n k : Nat} {dead ts part : Bool} {c : Nat → Nat} (h : Made w p S T Z q m n dead ts part c) (h' : Cn w' p S T q m n dead ts part (bump c k)) (hf : Fr (XX S T m) w w') : Made w' p S T Z q m n dead ts part (bump c k) := by
  obtain ⟨⟨F, cnt, ⟨⟨cs0, h1⟩, ⟨es, s1, _⟩, _, h4⟩, _⟩, h2, h3, hm⟩ := h
  refine ⟨h', h2, fun e => ?_, hm⟩
  obtain ⟨e1, ⟨cs, r1, r2⟩, h5⟩ := h3 e
  obtain ⟨ds, t1, _⟩ := id h5
  subst e1
  have hp : ∀ j, (j = p ∨ j = Z) → ¬ XX T T m j := by
    rintro j hj (e | e | e)
    · subst e; rcases hj with rfl | rfl
      · exact r1.ne s1 (by decide) rfl
      · exact t1.ne s1 (by decide) rfl
    · subst e; rcases hj with rfl | rfl
      · exact r1.ne s1 (by decide) rfl
      · exact t1.ne s1 (by decide) rfl
    · subst e
      cases part
      · have a := hm rfl
        subst a
        rcases hj with rfl | rfl
        · exact r1.ne s1 (by decide) rfl
        · exact t1.ne s1 (by decide) rfl
      · obtain ⟨_, u3⟩ := h4 rfl
        rcases hj with rfl | rfl
        · exact r1.neMap u3 rfl
        · exact t1.neMap u3 rfl
  exact ⟨rfl, ⟨cs, r1.kept (hf.block _ r1.lt (hp p (.inl rfl))), r2⟩, h5.kept (hf.block _ h5.lt (hp Z (.inr rfl)))⟩

theorem zz6 (x : Option Addr) (n : Int) (len cap : Nat) (a b c : Bool) (w : World) (h : len ≤ 9223372036854775807) : Calls Try.prog 6 #[.int .i64 n, .slice x len cap, .bool a, .bool b, .bool c] w fun e w' => e = .returned (.bool (decide (len ≤ 1048576))) ∧ w = w' := by
  by_cases hl : 1048576 < len
  · have e : decide (len ≤ 1048576) = false := by simp; omega
    rw [e]
    clear e
    go_enter Try.func6, Try.ntmps6
    go_wp2
    go_ret
    exact ⟨rfl, rfl⟩
  · have e : decide (len ≤ 1048576) = true := by simp; omega
    rw [e]
    clear e
    go_enter Try.func6, Try.ntmps6
    go_wp2
    go_ret
    exact ⟨rfl, rfl⟩

theorem walk_ftt (x : Addr) (n len cap : Nat) (z : List Int) (w : World) (hn1 : 1 ≤ n) (hn2 : n ≤ 4096) (hl : len ≤ 65536) (hcell : ∀ i, i < len → w.cell? (x.add i) = some (.int .u32 (z.getD i 0))) (hwf : ∀ i, i < len → 0 ≤ z.getD i 0 ∧ z.getD i 0 ≤ 4294967295) :
    Calls Try.prog 3 #[.int .i64 n, .slice (some x) len cap, .bool false, .bool true, .bool true] w fun e w' => e = .returned (.bool true) ∧ Below w.heap.size w w' := by
  have hm1 := info_parts info24
  obtain ⟨j0, gi, gz0, gz1, gz2⟩ := hm1
  have HC := Lib.hid hcell
  have HW := Lib.hid hwf
  clear hcell hwf
  go_enter Try.func3, Try.ntmps3
  go_wp2_with fail
  refine (zz6 _ _ _ _ _ _ _ _ (by omega)).mono ?_
  rintro e w1 ⟨rfl, rfl⟩
  have hd1 : decide (len ≤ 1048576) = true := by simp; omega
  go_wp2_with fail
  go_loop [45, 12] (fun v45 _ => ∃ k : Nat, k ≤ len ∧ v45 = .int .i64 k ∧ ∀ i, i < k → z.getD i 0 < n) (fun v45 _ => len - (intOf v45).toNat)
  case atStart => exact ⟨0, Nat.zero_le _, rfl, fun i hi => by omega⟩
  case round =>
    obtain ⟨k, hk, rfl, hlo⟩ := hrel
    have HL := Lib.hid hlo
    clear hlo
    by_cases hlt : k < len
    · have hc := HC.out k hlt
      have hwk := HW.out k hlt
      obtain ⟨o, ho⟩ : ∃ o : Nat, z.getD k 0 = o := ⟨(z.getD k 0).toNat, by omega⟩
      have HO := Lib.hid ho
      rw [ho] at hc hwk
      clear ho
      by_cases hge : n ≤ o
      · go_wp2_with fail
        go_ret
        exact ⟨rfl, Below.refl _ _⟩
      · have HN : Hid (∀ i, i < k + 1 → z.getD i 0 < n) := fun i hi => by
          by_cases e : i = k
          · rw [e, HO.out]; omega
          · exact HL.out i (by omega)
        go_wp2_with fail
        go_round
        case rel => exact ⟨k + 1, by omega, by go_num, HN.out⟩
        case measure => simp [intOf]; omega
    · obtain rfl : k = len := by omega
      clear hlt
      go_wp2_with fail
      refine (make7 n _ _ _ _ hn1 hn2).mono ?_
      rintro e w2 ⟨p, S, T, Z, q, m, rfl, hM, hge, hb⟩
      have HM := Lib.hid hM
      have HG := Lib.hid hge
      clear hM hge
      go_wp2_with fail
      go_loopw [61, 15] (fun v61 _ wr => ∃ j : Nat, j ≤ k ∧ v61 = .int .i64 j ∧ Made wr p S T Z q m n false true true (cAt z j) ∧ Below w.heap.size w wr) (fun v61 _ _ => k - (intOf v61).toNat)
      case atStart => exact ⟨0, Nat.zero_le _, rfl, HM.out, hb⟩
      case round =>
        obtain ⟨j, hj, rfl, hMj, hbj⟩ := hrel
        have HMJ := Lib.hid hMj
        clear hMj HM hb
        by_cases hlt : j < k
        · have hc := later (HC.out j (by omega)) hbj
          have hwk := HW.out j (by omega)
          have hol := HL.out j (by omega)
          obtain ⟨o, ho⟩ : ∃ o : Nat, z.getD j 0 = o := ⟨(z.getD j 0).toNat, by omega⟩
          have HO := Lib.hid ho
          rw [ho] at hc hwk hol
          clear ho
          have hol' : o < n := by omega
          go_wp2_with fail
          refine (record8 p S T q m n o _ _ _ (cAt z j) _ hol' (by omega) (by have := cAt_le z j o; omega) HMJ.out.1).mono ?_
          rintro e w3 ⟨rfl, h3, f3⟩
          have hM3 : Hid (Made w3 p S T Z q m n false true true (cAt z (j + 1))) := by
            have := HMJ.out.step h3 f3
            unfold Hid
            rw [cAt, HO.out]
            exact this
          have hb3 : Below w.heap.size w w3 := hbj.trans (f3.below (by rintro i (rfl | rfl | rfl); exact HG.out.1; exact HG.out.2.1; exact HG.out.2.2) hbj.size)
          clear h3 f3
          go_wp2_with fail
          go_roundw
          case rel => exact ⟨j + 1, by omega, by go_num, hM3.out, hb3⟩
          case measure => simp [intOf]; omega
        · obtain rfl : j = k := by omega
          clear hlt
          have hsz := hbj.size
          go_wp2_with (at_make; refine wpList_make_full _ rfl _ _ 22 rfl w.heap.size 24 j0 _ 1 Try.underlying22 gi gz0 gz1 .i64 .i64 _ _ n rfl rfl rfl rfl (by rw [gz2]; omega) (by unfold maxLen; omega) (by omega) ?_)
          intro w3 hown hgrow
          obtain ⟨wo, rfl⟩ : ∃ wo : World, wo = wr := ⟨_, rfl⟩
          have hb3 : Below wo.heap.size wo w3 := Below.grown (Below.refl _ _) hgrow (Nat.le_refl _) (fun k hk => by cases hk)
          have hR : Cells w3 wo.heap.size 24 n (fun i => .int .u32 (cAt z 0 i)) := made1 hown
          have HR := Lib.hid hR
          clear hown hgrow gi gz0 gz1 gz2 j0 hR
          go_wp2_with fail
          go_loopw [73, 18] (fun v73 _ wr => ∃ i : Nat, i ≤ j ∧ v73 = .int .i64 i ∧ Cells wr wo.heap.size 24 n (fun o => .int .u32 (cAt z i o)) ∧ Below wo.heap.size wo wr) (fun v73 _ _ => j - (intOf v73).toNat)
          case atStart => exact ⟨0, Nat.zero_le _, rfl, HR.out, hb3⟩
          case round =>
            obtain ⟨i, hi, rfl, hCi, hbi⟩ := hrel
            have HCI := Lib.hid hCi
            clear hCi HR hb3
            by_cases hlt : i < j
            · have hc0 := later (HC.out i (by omega)) hbj
              have hc := later hc0 hbi
              have hwk := HW.out i (by omega)
              have hol := HL.out i (by omega)
              obtain ⟨o, ho⟩ : ∃ o : Nat, z.getD i 0 = o := ⟨(z.getD i 0).toNat, by omega⟩
              have HO := Lib.hid ho
              rw [ho] at hc hwk hol
              clear ho hc0
              have hol' : o < n := by omega
              obtain ⟨cc, hcc⟩ : ∃ cc : Nat, cAt z i o = cc := ⟨_, rfl⟩
              have q1 : wr.cell? ⟨wo.heap.size, o, none⟩ = some (.int .u32 (cc : Int)) := HCI.out.cellv hol' (by rw [hcc])
              have q2 := HCI.out.frozen o
              have hcl : cc ≤ 65536 := by have := cAt_le z i o; omega
              have HCC := Lib.hid hcc
              clear hcc
              go_wp2_with fail
              have HS : Cells (wr.setCell ⟨wo.heap.size, o, none⟩ (.int .u32 ((cc : Int) + 1))) wo.heap.size 24 n (fun a => .int .u32 (cAt z (i + 1) a)) := by
                refine (HCI.out.set o _).congr fun a ha => ?_
                have e1 := HO.out
                have e2 := HCC.out
                unfold upd
                rw [cAt, e1]
                unfold bump
                by_cases e : a = o
                · subst e
                  simp [e2]
                · simp [e]
              go_roundw
              case rel => exact ⟨i + 1, by omega, by go_num, HS, by go_grown⟩
              case measure => simp [intOf]; omega
            · obtain rfl : i = j := by omega
              clear hlt
              go_wp2_with fail
              go_loopw [20, 19] (fun v20 v19 wr => ∃ l : Nat, l ≤ n ∧ v20 = .int .i64 l ∧ v19 = .int .i64 ((if true && !false then dist (cAt z i) l else 0 : Nat) : Int) ∧ Cells wr wo.heap.size 24 n (fun o => .int .u32 (cAt z i o)) ∧ Below wo.heap.size wo wr) (fun v20 _ _ => n - (intOf v20).toNat)
              case atStart => exact ⟨0, Nat.zero_le _, rfl, rfl, HCI.out, hbi⟩
              case round =>
                obtain ⟨l, hl', rfl, rfl, hCl, hbl⟩ := hrel
                have HCL := Lib.hid hCl
                have HML := Lib.hid (HMJ.out.later (fun a ha => hbl.block a ha))
                clear hCl HCI hbi
                by_cases hlt : l < n
                · obtain ⟨cc, hcc⟩ : ∃ cc : Nat, cAt z i l = cc := ⟨_, rfl⟩
                  have q1 : wr.cell? ⟨wo.heap.size, l, none⟩ = some (.int .u32 (cc : Int)) := HCL.out.cellv hlt (by rw [hcc])
                  have hcl : cc ≤ 65536 := by have := cAt_le z i l; omega
                  have hd : dist (cAt z i) (l + 1) = dist (cAt z i) l + if cc = 0 then 0 else 1 := by rw [dist, hcc]
                  have hdl := dist_le (cAt z i) l
                  have u9 := use9 p S T Z q m n l _ _ _ _ wr hlt (by omega) HML.out
                  have u10 := ts10 p S T Z q m n l _ _ _ _ wr hlt (by omega) HML.out
                  have u11 := part11 p S T Z q m n l _ _ _ _ wr hlt (by omega) HML.out
                  unfold inPart at u11
                  rw [hcc] at u9 u10 u11
                  have HD := Lib.hid hd
                  have hzz := HCL.out.lt
                  clear hd hcc
                  by_cases h0 : cc = 0
                  · subst h0
                    simp at u9 u10 u11
                    have U9 := Lib.hid u9
                    have U10 := Lib.hid u10
                    have U11 := Lib.hid u11
                    clear u9 u10 u11
                    go_wp2_with fail
                    refine U9.out.mono ?_
                    rintro e w4 ⟨rfl, rfl⟩
                    go_wp2_with fail
                    refine U10.out.mono ?_
                    rintro e w4 ⟨rfl, rfl⟩
                    go_wp2_with fail
                    refine U11.out.mono ?_
                    rintro e w5 ⟨rfl, b5⟩
                    have q5 := later q1 b5
                    have C5 := HCL.out.below b5 hzz
                    have B5 := hbl.trans (b5.mono hbl.size)
                    clear b5
                    have C5' := Lib.hid C5
                    clear C5
                    go_wp2_with fail
                    go_roundw
                    case rel => exact ⟨l + 1, by omega, by go_num, by (simp [HD.out]), C5'.out, B5⟩
                    case measure => simp [intOf]; omega
                  · have hcb : (cc == 0) = false := by simpa using h0
                    have hpos : 0 < cc := by omega
                    rw [hcb] at u11
                    simp at u9 u10 u11
                    have U9 := Lib.hid u9
                    have U10 := Lib.hid u10
                    have U11 := Lib.hid u11
                    have H0 := Lib.hid h0
                    clear u9 u10 u11 hcb h0
                    go_wp2_with fail
                    refine U9.out.mono ?_
                    rintro e w4 ⟨rfl, rfl⟩
                    go_wp2_with fail
                    refine U10.out.mono ?_
                    rintro e w4 ⟨rfl, rfl⟩
                    go_wp2_with fail
                    refine U11.out.mono ?_
                    rintro e w5 ⟨rfl, b5⟩
                    have q5 := later q1 b5
                    have C5 := HCL.out.below b5 hzz
                    have B5 := hbl.trans (b5.mono hbl.size)
                    clear b5
                    have C5' := Lib.hid C5
                    clear C5
                    go_wp2_with fail
                    go_roundw
                    case rel => exact ⟨l + 1, by omega, by go_num, by (simp [HD.out, H0.out]), C5'.out, B5⟩
                    case measure => simp [intOf]; omega
                · obtain rfl : l = n := by omega
                  clear hlt
                  go_wp2_with fail
                  refine (len12 p S T Z q m l _ _ _ _ _ HML.out).mono ?_
                  rintro e w4 ⟨rfl, rfl⟩
                  go_wp2_with fail
                  go_ret
                  exact ⟨by simp, hbj.trans (hbl.mono hsz)⟩

theorem walk_ftf (x : Addr) (n len cap : Nat) (z : List Int) (w : World) (hn1 : 1 ≤ n) (hn2 : n ≤ 4096) (hl : len ≤ 65536) (hcell : ∀ i, i < len → w.cell? (x.add i) = some (.int .u32 (z.getD i 0))) (hwf : ∀ i, i < len → 0 ≤ z.getD i 0 ∧ z.getD i 0 ≤ 4294967295) :
    Calls Try.prog 3 #[.int .i64 n, .slice (some x) len cap, .bool false, .bool true, .bool false] w fun e w' => e = .returned (.bool true) ∧ Below w.heap.size w w' := by
  have hm1 := info_parts info24
  obtain ⟨j0, gi, gz0, gz1, gz2⟩ := hm1
  have HC := Lib.hid hcell
  have HW := Lib.hid hwf
  clear hcell hwf
  go_enter Try.func3, Try.ntmps3
  go_wp2_with fail
  refine (zz6 _ _ _ _ _ _ _ _ (by omega)).mono ?_
  rintro e w1 ⟨rfl, rfl⟩
  have hd1 : decide (len ≤ 1048576) = true := by simp; omega
  go_wp2_with fail
  go_loop [45, 12] (fun v45 _ => ∃ k : Nat, k ≤ len ∧ v45 = .int .i64 k ∧ ∀ i, i < k → z.getD i 0 < n) (fun v45 _ => len - (intOf v45).toNat)
  case atStart => exact ⟨0, Nat.zero_le _, rfl, fun i hi => by omega⟩
  case round =>
    obtain ⟨k, hk, rfl, hlo⟩ := hrel
    have HL := Lib.hid hlo
    clear hlo
    by_cases hlt : k < len
    · have hc := HC.out k hlt
      have hwk := HW.out k hlt
      obtain ⟨o, ho⟩ : ∃ o : Nat, z.getD k 0 = o := ⟨(z.getD k 0).toNat, by omega⟩
      have HO := Lib.hid ho
      rw [ho] at hc hwk
      clear ho
      by_cases hge : n ≤ o
      · go_wp2_with fail
        go_ret
        exact ⟨rfl, Below.refl _ _⟩
      · have HN : Hid (∀ i, i < k + 1 → z.getD i 0 < n) := fun i hi => by
          by_cases e : i = k
          · rw [e, HO.out]; omega
          · exact HL.out i (by omega)
        go_wp2_with fail
        go_round
        case rel => exact ⟨k + 1, by omega, by go_num, HN.out⟩
        case measure => simp [intOf]; omega
    · obtain rfl : k = len := by omega
      clear hlt
      go_wp2_with fail
      refine (make7 n _ _ _ _ hn1 hn2).mono ?_
      rintro e w2 ⟨p, S, T, Z, q, m, rfl, hM, hge, hb⟩
      have HM := Lib.hid hM
      have HG := Lib.hid hge
      clear hM hge
      go_wp2_with fail
      go_loopw [61, 15] (fun v61 _ wr => ∃ j : Nat, j ≤ k ∧ v61 = .int .i64 j ∧ Made wr p S T Z q m n false true false (cAt z j) ∧ Below w.heap.size w wr) (fun v61 _ _ => k - (intOf v61).toNat)
      case atStart => exact ⟨0, Nat.zero_le _, rfl, HM.out, hb⟩
      case round =>
        obtain ⟨j, hj, rfl, hMj, hbj⟩ := hrel
        have HMJ := Lib.hid hMj
        clear hMj HM hb
        by_cases hlt : j < k
        · have hc := later (HC.out j (by omega)) hbj
          have hwk := HW.out j (by omega)
          have hol := HL.out j (by omega)
          obtain ⟨o, ho⟩ : ∃ o : Nat, z.getD j 0 = o := ⟨(z.getD j 0).toNat, by omega⟩
          have HO := Lib.hid ho
          rw [ho] at hc hwk hol
          clear ho
          have hol' : o < n := by omega
          go_wp2_with fail
          refine (record8 p S T q m n o _ _ _ (cAt z j) _ hol' (by omega) (by have := cAt_le z j o; omega) HMJ.out.1).mono ?_
          rintro e w3 ⟨rfl, h3, f3⟩
          have hM3 : Hid (Made w3 p S T Z q m n false true false (cAt z (j + 1))) := by
            have := HMJ.out.step h3 f3
            unfold Hid
            rw [cAt, HO.out]
            exact this
          have hb3 : Below w.heap.size w w3 := hbj.trans (f3.below (by rintro i (rfl | rfl | rfl); exact HG.out.1; exact HG.out.2.1; exact HG.out.2.2) hbj.size)
          clear h3 f3
          go_wp2_with fail
          go_roundw
          case rel => exact ⟨j + 1, by omega, by go_num, hM3.out, hb3⟩
          case measure => simp [intOf]; omega
        · obtain rfl : j = k := by omega
          clear hlt
          have hsz := hbj.size
          go_wp2_with (at_make; refine wpList_make_full _ rfl _ _ 22 rfl w.heap.size 24 j0 _ 1 Try.underlying22 gi gz0 gz1 .i64 .i64 _ _ n rfl rfl rfl rfl (by rw [gz2]; omega) (by unfold maxLen; omega) (by omega) ?_)
          intro w3 hown hgrow
          obtain ⟨wo, rfl⟩ : ∃ wo : World, wo = wr := ⟨_, rfl⟩
          have hb3 : Below wo.heap.size wo w3 := Below.grown (Below.refl _ _) hgrow (Nat.le_refl _) (fun k hk => by cases hk)
          have hR : Cells w3 wo.heap.size 24 n (fun i => .int .u32 (cAt z 0 i)) := made1 hown
          have HR := Lib.hid hR
          clear hown hgrow gi gz0 gz1 gz2 j0 hR
          go_wp2_with fail
          go_loopw [73, 18] (fun v73 _ wr => ∃ i : Nat, i ≤ j ∧ v73 = .int .i64 i ∧ Cells wr wo.heap.size 24 n (fun o => .int .u32 (cAt z i o)) ∧ Below wo.heap.size wo wr) (fun v73 _ _ => j - (intOf v73).toNat)
          case atStart => exact ⟨0, Nat.zero_le _, rfl, HR.out, hb3⟩
          case round =>
            obtain ⟨i, hi, rfl, hCi, hbi⟩ := hrel
            have HCI := Lib.hid hCi
            clear hCi HR hb3
            by_cases hlt : i < j
            · have hc0 := later (HC.out i (by omega)) hbj
              have hc := later hc0 hbi
              have hwk := HW.out i (by omega)
              have hol := HL.out i (by omega)
              obtain ⟨o, ho⟩ : ∃ o : Nat, z.getD i 0 = o := ⟨(z.getD i 0).toNat, by omega⟩
              have HO := Lib.hid ho
              rw [ho] at hc hwk hol
              clear ho hc0
              have hol' : o < n := by omega
              obtain ⟨cc, hcc⟩ : ∃ cc : Nat, cAt z i o = cc := ⟨_, rfl⟩
              have q1 : wr.cell? ⟨wo.heap.size, o, none⟩ = some (.int .u32 (cc : Int)) := HCI.out.cellv hol' (by rw [hcc])
              have q2 := HCI.out.frozen o
              have hcl : cc ≤ 65536 := by have := cAt_le z i o; omega
              have HCC := Lib.hid hcc
              clear hcc
              go_wp2_with fail
              have HS : Cells (wr.setCell ⟨wo.heap.size, o, none⟩ (.int .u32 ((cc : Int) + 1))) wo.heap.size 24 n (fun a => .int .u32 (cAt z (i + 1) a)) := by
                refine (HCI.out.set o _).congr fun a ha => ?_
                have e1 := HO.out
                have e2 := HCC.out
                unfold upd
                rw [cAt, e1]
                unfold bump
                by_cases e : a = o
                · subst e
                  simp [e2]
                · simp [e]
              go_roundw
              case rel => exact ⟨i + 1, by omega, by go_num, HS, by go_grown⟩
              case measure => simp [intOf]; omega
            · obtain rfl : i = j := by omega
              clear hlt
              go_wp2_with fail
              go_loopw [20, 19] (fun v20 v19 wr => ∃ l : Nat, l ≤ n ∧ v20 = .int .i64 l ∧ v19 = .int .i64 ((if false && !false then dist (cAt z i) l else 0 : Nat) : Int) ∧ Cells wr wo.heap.size 24 n (fun o => .int .u32 (cAt z i o)) ∧ Below wo.heap.size wo wr) (fun v20 _ _ => n - (intOf v20).toNat)
              case atStart => exact ⟨0, Nat.zero_le _, rfl, rfl, HCI.out, hbi⟩
              case round =>
                obtain ⟨l, hl', rfl, rfl, hCl, hbl⟩ := hrel
                have HCL := Lib.hid hCl
                have HML := Lib.hid (HMJ.out.later (fun a ha => hbl.block a ha))
                clear hCl HCI hbi
                by_cases hlt : l < n
                · obtain ⟨cc, hcc⟩ : ∃ cc : Nat, cAt z i l = cc := ⟨_, rfl⟩
                  have q1 : wr.cell? ⟨wo.heap.size, l, none⟩ = some (.int .u32 (cc : Int)) := HCL.out.cellv hlt (by rw [hcc])
                  have hcl : cc ≤ 65536 := by have := cAt_le z i l; omega
                  have hd : dist (cAt z i) (l + 1) = dist (cAt z i) l + if cc = 0 then 0 else 1 := by rw [dist, hcc]
                  have hdl := dist_le (cAt z i) l
                  have u9 := use9 p S T Z q m n l _ _ _ _ wr hlt (by omega) HML.out
                  have u10 := ts10 p S T Z q m n l _ _ _ _ wr hlt (by omega) HML.out
                  have u11 := part11 p S T Z q m n l _ _ _ _ wr hlt (by omega) HML.out
                  unfold inPart at u11
                  rw [hcc] at u9 u10 u11
                  have HD := Lib.hid hd
                  have hzz := HCL.out.lt
                  clear hd hcc
                  by_cases h0 : cc = 0
                  · subst h0
                    simp at u9 u10 u11
                    have U9 := Lib.hid u9
                    have U10 := Lib.hid u10
                    have U11 := Lib.hid u11
                    clear u9 u10 u11
                    go_wp2_with fail
                    refine U9.out.mono ?_
                    rintro e w4 ⟨rfl, rfl⟩
                    go_wp2_with fail
                    refine U10.out.mono ?_
                    rintro e w4 ⟨rfl, rfl⟩
                    go_wp2_with fail
                    refine U11.out.mono ?_
                    rintro e w5 ⟨rfl, b5⟩
                    have q5 := later q1 b5
                    have C5 := HCL.out.below b5 hzz
                    have B5 := hbl.trans (b5.mono hbl.size)
                    clear b5
                    have C5' := Lib.hid C5
                    clear C5
                    go_wp2_with fail
                    go_roundw
                    case rel => exact ⟨l + 1, by omega, by go_num, by (simp [HD.out]), C5'.out, B5⟩
                    case measure => simp [intOf]; omega
                  · have hcb : (cc == 0) = false := by simpa using h0
                    have hpos : 0 < cc := by omega
                    rw [hcb] at u11
                    simp at u9 u10 u11
                    have U9 := Lib.hid u9
                    have U10 := Lib.hid u10
                    have U11 := Lib.hid u11
                    have H0 := Lib.hid h0
                    clear u9 u10 u11 hcb h0
                    go_wp2_with fail
                    refine U9.out.mono ?_
                    rintro e w4 ⟨rfl, rfl⟩
                    go_wp2_with fail
                    refine U10.out.mono ?_
                    rintro e w4 ⟨rfl, rfl⟩
                    go_wp2_with fail
                    refine U11.out.mono ?_
                    rintro e w5 ⟨rfl, b5⟩
                    have q5 := later q1 b5
                    have C5 := HCL.out.below b5 hzz
                    have B5 := hbl.trans (b5.mono hbl.size)
                    clear b5
                    have C5' := Lib.hid C5
                    clear C5
                    go_wp2_with fail
                    go_roundw
                    case rel => exact ⟨l + 1, by omega, by go_num, by (simp [HD.out, H0.out]), C5'.out, B5⟩
                    case measure => simp [intOf]; omega
                · obtain rfl : l = n := by omega
                  clear hlt
                  go_wp2_with fail
                  refine (len12 p S T Z q m l _ _ _ _ _ HML.out).mono ?_
                  rintro e w4 ⟨rfl, rfl⟩
                  go_wp2_with fail
                  go_ret
                  exact ⟨by simp, hbj.trans (hbl.mono hsz)⟩

theorem walk_fft (x : Addr) (n len cap : Nat) (z : List Int) (w : World) (hn1 : 1 ≤ n) (hn2 : n ≤ 4096) (hl : len ≤ 65536) (hcell : ∀ i, i < len → w.cell? (x.add i) = some (.int .u32 (z.getD i 0))) (hwf : ∀ i, i < len → 0 ≤ z.getD i 0 ∧ z.getD i 0 ≤ 4294967295) :
    Calls Try.prog 3 #[.int .i64 n, .slice (some x) len cap, .bool false, .bool false, .bool true] w fun e w' => e = .returned (.bool true) ∧ Below w.heap.size w w' := by
  have hm1 := info_parts info24
  obtain ⟨j0, gi, gz0, gz1, gz2⟩ := hm1
  have HC := Lib.hid hcell
  have HW := Lib.hid hwf
  clear hcell hwf
  go_enter Try.func3, Try.ntmps3
  go_wp2_with fail
  refine (zz6 _ _ _ _ _ _ _ _ (by omega)).mono ?_
  rintro e w1 ⟨rfl, rfl⟩
  have hd1 : decide (len ≤ 1048576) = true := by simp; omega
  go_wp2_with fail
  go_loop [45, 12] (fun v45 _ => ∃ k : Nat, k ≤ len ∧ v45 = .int .i64 k ∧ ∀ i, i < k → z.getD i 0 < n) (fun v45 _ => len - (intOf v45).toNat)
  case atStart => exact ⟨0, Nat.zero_le _, rfl, fun i hi => by omega⟩
  case round =>
    obtain ⟨k, hk, rfl, hlo⟩ := hrel
    have HL := Lib.hid hlo
    clear hlo
    by_cases hlt : k < len
    · have hc := HC.out k hlt
      have hwk := HW.out k hlt
      obtain ⟨o, ho⟩ : ∃ o : Nat, z.getD k 0 = o := ⟨(z.getD k 0).toNat, by omega⟩
      have HO := Lib.hid ho
      rw [ho] at hc hwk
      clear ho
      by_cases hge : n ≤ o
      · go_wp2_with fail
        go_ret
        exact ⟨rfl, Below.refl _ _⟩
      · have HN : Hid (∀ i, i < k + 1 → z.getD i 0 < n) := fun i hi => by
          by_cases e : i = k
          · rw [e, HO.out]; omega
          · exact HL.out i (by omega)
        go_wp2_with fail
        go_round
        case rel => exact ⟨k + 1, by omega, by go_num, HN.out⟩
        case measure => simp [intOf]; omega
    · obtain rfl : k = len := by omega
      clear hlt
      go_wp2_with fail
      refine (make7 n _ _ _ _ hn1 hn2).mono ?_
      rintro e w2 ⟨p, S, T, Z, q, m, rfl, hM, hge, hb⟩
      have HM := Lib.hid hM
      have HG := Lib.hid hge
      clear hM hge
      go_wp2_with fail
      go_loopw [61, 15] (fun v61 _ wr => ∃ j : Nat, j ≤ k ∧ v61 = .int .i64 j ∧ Made wr p S T Z q m n false false true (cAt z j) ∧ Below w.heap.size w wr) (fun v61 _ _ => k - (intOf v61).toNat)
      case atStart => exact ⟨0, Nat.zero_le _, rfl, HM.out, hb⟩
      case round =>
        obtain ⟨j, hj, rfl, hMj, hbj⟩ := hrel
        have HMJ := Lib.hid hMj
        clear hMj HM hb
        by_cases hlt : j < k
        · have hc := later (HC.out j (by omega)) hbj
          have hwk := HW.out j (by omega)
          have hol := HL.out j (by omega)
          obtain ⟨o, ho⟩ : ∃ o : Nat, z.getD j 0 = o := ⟨(z.getD j 0).toNat, by omega⟩
          have HO := Lib.hid ho
          rw [ho] at hc hwk hol
          clear ho
          have hol' : o < n := by omega
          go_wp2_with fail
          refine (record8 p S T q m n o _ _ _ (cAt z j) _ hol' (by omega) (by have := cAt_le z j o; omega) HMJ.out.1).mono ?_
          rintro e w3 ⟨rfl, h3, f3⟩
          have hM3 : Hid (Made w3 p S T Z q m n false false true (cAt z (j + 1))) := by
            have := HMJ.out.step h3 f3
            unfold Hid
            rw [cAt, HO.out]
            exact this
          have hb3 : Below w.heap.size w w3 := hbj.trans (f3.below (by rintro i (rfl | rfl | rfl); exact HG.out.1; exact HG.out.2.1; exact HG.out.2.2) hbj.size)
          clear h3 f3
          go_wp2_with fail
          go_roundw
          case rel => exact ⟨j + 1, by omega, by go_num, hM3.out, hb3⟩
          case measure => simp [intOf]; omega
        · obtain rfl : j = k := by omega
          clear hlt
          have hsz := hbj.size
          go_wp2_with (at_make; refine wpList_make_full _ rfl _ _ 22 rfl w.heap.size 24 j0 _ 1 Try.underlying22 gi gz0 gz1 .i64 .i64 _ _ n rfl rfl rfl rfl (by rw [gz2]; omega) (by unfold maxLen; omega) (by omega) ?_)
          intro w3 hown hgrow
          obtain ⟨wo, rfl⟩ : ∃ wo : World, wo = wr := ⟨_, rfl⟩
          have hb3 : Below wo.heap.size wo w3 := Below.grown (Below.refl _ _) hgrow (Nat.le_refl _) (fun k hk => by cases hk)
          have hR : Cells w3 wo.heap.size 24 n (fun i => .int .u32 (cAt z 0 i)) := made1 hown
          have HR := Lib.hid hR
          clear hown hgrow gi gz0 gz1 gz2 j0 hR
          go_wp2_with fail
          go_loopw [73, 18] (fun v73 _ wr => ∃ i : Nat, i ≤ j ∧ v73 = .int .i64 i ∧ Cells wr wo.heap.size 24 n (fun o => .int .u32 (cAt z i o)) ∧ Below wo.heap.size wo wr) (fun v73 _ _ => j - (intOf v73).toNat)
          case atStart => exact ⟨0, Nat.zero_le _, rfl, HR.out, hb3⟩
          case round =>
            obtain ⟨i, hi, rfl, hCi, hbi⟩ := hrel
            have HCI := Lib.hid hCi
            clear hCi HR hb3
            by_cases hlt : i < j
            · have hc0 := later (HC.out i (by omega)) hbj
              have hc := later hc0 hbi
              have hwk := HW.out i (by omega)
              have hol := HL.out i (by omega)
              obtain ⟨o, ho⟩ : ∃ o : Nat, z.getD i 0 = o := ⟨(z.getD i 0).toNat, by omega⟩
              have HO := Lib.hid ho
              rw [ho] at hc hwk hol
              clear ho hc0
              have hol' : o < n := by omega
              obtain ⟨cc, hcc⟩ : ∃ cc : Nat, cAt z i o = cc := ⟨_, rfl⟩
              have q1 : wr.cell? ⟨wo.heap.size, o, none⟩ = some (.int .u32 (cc : Int)) := HCI.out.cellv hol' (by rw [hcc])
              have q2 := HCI.out.frozen o
              have hcl : cc ≤ 65536 := by have := cAt_le z i o; omega
              have HCC := Lib.hid hcc
              clear hcc
              go_wp2_with fail
              have HS : Cells (wr.setCell ⟨wo.heap.size, o, none⟩ (.int .u32 ((cc : Int) + 1))) wo.heap.size 24 n (fun a => .int .u32 (cAt z (i + 1) a)) := by
                refine (HCI.out.set o _).congr fun a ha => ?_
                have e1 := HO.out
                have e2 := HCC.out
                unfold upd
                rw [cAt, e1]
                unfold bump
                by_cases e : a = o
                · subst e
                  simp [e2]
                · simp [e]
              go_roundw
              case rel => exact ⟨i + 1, by omega, by go_num, HS, by go_grown⟩
              case measure => simp [intOf]; omega
            · obtain rfl : i = j := by omega
              clear hlt
              go_wp2_with fail
              go_loopw [20, 19] (fun v20 v19 wr => ∃ l : Nat, l ≤ n ∧ v20 = .int .i64 l ∧ v19 = .int .i64 ((if true && !false then dist (cAt z i) l else 0 : Nat) : Int) ∧ Cells wr wo.heap.size 24 n (fun o => .int .u32 (cAt z i o)) ∧ Below wo.heap.size wo wr) (fun v20 _ _ => n - (intOf v20).toNat)
              case atStart => exact ⟨0, Nat.zero_le _, rfl, rfl, HCI.out, hbi⟩
              case round =>
                obtain ⟨l, hl', rfl, rfl, hCl, hbl⟩ := hrel
                have HCL := Lib.hid hCl
                have HML := Lib.hid (HMJ.out.later (fun a ha => hbl.block a ha))
                clear hCl HCI hbi
                by_cases hlt : l < n
                · obtain ⟨cc, hcc⟩ : ∃ cc : Nat, cAt z i l = cc := ⟨_, rfl⟩
                  have q1 : wr.cell? ⟨wo.heap.size, l, none⟩ = some (.int .u32 (cc : Int)) := HCL.out.cellv hlt (by rw [hcc])
                  have hcl : cc ≤ 65536 := by have := cAt_le z i l; omega
                  have hd : dist (cAt z i) (l + 1) = dist (cAt z i) l + if cc = 0 then 0 else 1 := by rw [dist, hcc]
                  have hdl := dist_le (cAt z i) l
                  have u9 := use9 p S T Z q m n l _ _ _ _ wr hlt (by omega) HML.out
                  have u10 := ts10 p S T Z q m n l _ _ _ _ wr hlt (by omega) HML.out
                  have u11 := part11 p S T Z q m n l _ _ _ _ wr hlt (by omega) HML.out
                  unfold inPart at u11
                  rw [hcc] at u9 u10 u11
                  have HD := Lib.hid hd
                  have hzz := HCL.out.lt
                  clear hd hcc
                  by_cases h0 : cc = 0
                  · subst h0
                    simp at u9 u10 u11
                    have U9 := Lib.hid u9
                    have U10 := Lib.hid u10
                    have U11 := Lib.hid u11
                    clear u9 u10 u11
                    go_wp2_with fail
                    refine U9.out.mono ?_
                    rintro e w4 ⟨rfl, rfl⟩
                    go_wp2_with fail
                    refine U10.out.mono ?_
                    rintro e w4 ⟨rfl, rfl⟩
                    go_wp2_with fail
                    refine U11.out.mono ?_
                    rintro e w5 ⟨rfl, b5⟩
                    have q5 := later q1 b5
                    have C5 := HCL.out.below b5 hzz
                    have B5 := hbl.trans (b5.mono hbl.size)
                    clear b5
                    have C5' := Lib.hid C5
                    clear C5
                    go_wp2_with fail
                    go_roundw
                    case rel => exact ⟨l + 1, by omega, by go_num, by (simp [HD.out]), C5'.out, B5⟩
                    case measure => simp [intOf]; omega
                  · have hcb : (cc == 0) = false := by simpa using h0
                    have hpos : 0 < cc := by omega
                    rw [hcb] at u11
                    simp at u9 u10 u11
                    have U9 := Lib.hid u9
                    have U10 := Lib.hid u10
                    have U11 := Lib.hid u11
                    have H0 := Lib.hid h0
                    clear u9 u10 u11 hcb h0
                    go_wp2_with fail
                    refine U9.out.mono ?_
                    rintro e w4 ⟨rfl, rfl⟩
                    go_wp2_with fail
                    refine U10.out.mono ?_
                    rintro e w4 ⟨rfl, rfl⟩
                    go_wp2_with fail
                    refine U11.out.mono ?_
                    rintro e w5 ⟨rfl, b5⟩
                    have q5 := later q1 b5
                    have C5 := HCL.out.below b5 hzz
                    have B5 := hbl.trans (b5.mono hbl.size)
                    clear b5
                    have C5' := Lib.hid C5
                    clear C5
                    go_wp2_with fail
                    go_roundw
                    case rel => exact ⟨l + 1, by omega, by go_num, by (simp [HD.out, H0.out]), C5'.out, B5⟩
                    case measure => simp [intOf]; omega
                · obtain rfl : l = n := by omega
                  clear hlt
                  go_wp2_with fail
                  refine (len12 p S T Z q m l _ _ _ _ _ HML.out).mono ?_
                  rintro e w4 ⟨rfl, rfl⟩
                  go_wp2_with fail
                  go_ret
                  exact ⟨by simp, hbj.trans (hbl.mono hsz)⟩

theorem walk_fff (x : Addr) (n len cap : Nat) (z : List Int) (w : World) (hn1 : 1 ≤ n) (hn2 : n ≤ 4096) (hl : len ≤ 65536) (hcell : ∀ i, i < len → w.cell? (x.add i) = some (.int .u32 (z.getD i 0))) (hwf : ∀ i, i < len → 0 ≤ z.getD i 0 ∧ z.getD i 0 ≤ 4294967295) :
    Calls Try.prog 3 #[.int .i64 n, .slice (some x) len cap, .bool false, .bool false, .bool false] w fun e w' => e = .returned (.bool true) ∧ Below w.heap.size w w' := by
  have hm1 := info_parts info24
  obtain ⟨j0, gi, gz0, gz1, gz2⟩ := hm1
  have HC := Lib.hid hcell
  have HW := Lib.hid hwf
  clear hcell hwf
  go_enter Try.func3, Try.ntmps3
  go_wp2_with fail
  refine (zz6 _ _ _ _ _ _ _ _ (by omega)).mono ?_
  rintro e w1 ⟨rfl, rfl⟩
  have hd1 : decide (len ≤ 1048576) = true := by simp; omega
  go_wp2_with fail
  go_loop [45, 12] (fun v45 _ => ∃ k : Nat, k ≤ len ∧ v45 = .int .i64 k ∧ ∀ i, i < k → z.getD i 0 < n) (fun v45 _ => len - (intOf v45).toNat)
  case atStart => exact ⟨0, Nat.zero_le _, rfl, fun i hi => by omega⟩
  case round =>
    obtain ⟨k, hk, rfl, hlo⟩ := hrel
    have HL := Lib.hid hlo
    clear hlo
    by_cases hlt : k < len
    · have hc := HC.out k hlt
      have hwk := HW.out k hlt
      obtain ⟨o, ho⟩ : ∃ o : Nat, z.getD k 0 = o := ⟨(z.getD k 0).toNat, by omega⟩
      have HO := Lib.hid ho
      rw [ho] at hc hwk
      clear ho
      by_cases hge : n ≤ o
      · go_wp2_with fail
        go_ret
        exact ⟨rfl, Below.refl _ _⟩
      · have HN : Hid (∀ i, i < k + 1 → z.getD i 0 < n) := fun i hi => by
          by_cases e : i = k
          · rw [e, HO.out]; omega
          · exact HL.out i (by omega)
        go_wp2_with fail
        go_round
        case rel => exact ⟨k + 1, by omega, by go_num, HN.out⟩
        case measure => simp [intOf]; omega
    · obtain rfl : k = len := by omega
      clear hlt
      go_wp2_with fail
      refine (make7 n _ _ _ _ hn1 hn2).mono ?_
      rintro e w2 ⟨p, S, T, Z, q, m, rfl, hM, hge, hb⟩
      have HM := Lib.hid hM
      have HG := Lib.hid hge
      clear hM hge
      go_wp2_with fail
      go_loopw [61, 15] (fun v61 _ wr => ∃ j : Nat, j ≤ k ∧ v61 = .int .i64 j ∧ Made wr p S T Z q m n false false false (cAt z j) ∧ Below w.heap.size w wr) (fun v61 _ _ => k - (intOf v61).toNat)
      case atStart => exact ⟨0, Nat.zero_le _, rfl, HM.out, hb⟩
      case round =>
        obtain ⟨j, hj, rfl, hMj, hbj⟩ := hrel
        have HMJ := Lib.hid hMj
        clear hMj HM hb
        by_cases hlt : j < k
        · have hc := later (HC.out j (by omega)) hbj
          have hwk := HW.out j (by omega)
          have hol := HL.out j (by omega)
          obtain ⟨o, ho⟩ : ∃ o : Nat, z.getD j 0 = o := ⟨(z.getD j 0).toNat, by omega⟩
          have HO := Lib.hid ho
          rw [ho] at hc hwk hol
          clear ho
          have hol' : o < n := by omega
          go_wp2_with fail
          refine (record8 p S T q m n o _ _ _ (cAt z j) _ hol' (by omega) (by have := cAt_le z j o; omega) HMJ.out.1).mono ?_
          rintro e w3 ⟨rfl, h3, f3⟩
          have hM3 : Hid (Made w3 p S T Z q m n false false false (cAt z (j + 1))) := by
            have := HMJ.out.step h3 f3
            unfold Hid
            rw [cAt, HO.out]
            exact this
          have hb3 : Below w.heap.size w w3 := hbj.trans (f3.below (by rintro i (rfl | rfl | rfl); exact HG.out.1; exact HG.out.2.1; exact HG.out.2.2) hbj.size)
          clear h3 f3
          go_wp2_with fail
          go_roundw
          case rel => exact ⟨j + 1, by omega, by go_num, hM3.out, hb3⟩
          case measure => simp [intOf]; omega
        · obtain rfl : j = k := by omega
          clear hlt
          have hsz := hbj.size
          go_wp2_with (at_make; refine wpList_make_full _ rfl _ _ 22 rfl w.heap.size 24 j0 _ 1 Try.underlying22 gi gz0 gz1 .i64 .i64 _ _ n rfl rfl rfl rfl (by rw [gz2]; omega) (by unfold maxLen; omega) (by omega) ?_)
          intro w3 hown hgrow
          obtain ⟨wo, rfl⟩ : ∃ wo : World, wo = wr := ⟨_, rfl⟩
          have hb3 : Below wo.heap.size wo w3 := Below.grown (Below.refl _ _) hgrow (Nat.le_refl _) (fun k hk => by cases hk)
          have hR : Cells w3 wo.heap.size 24 n (fun i => .int .u32 (cAt z 0 i)) := made1 hown
          have HR := Lib.hid hR
          clear hown hgrow gi gz0 gz1 gz2 j0 hR
          go_wp2_with fail
          go_loopw [73, 18] (fun v73 _ wr => ∃ i : Nat, i ≤ j ∧ v73 = .int .i64 i ∧ Cells wr wo.heap.size 24 n (fun o => .int .u32 (cAt z i o)) ∧ Below wo.heap.size wo wr) (fun v73 _ _ => j - (intOf v73).toNat)
          case atStart => exact ⟨0, Nat.zero_le _, rfl, HR.out, hb3⟩
          case round =>
            obtain ⟨i, hi, rfl, hCi, hbi⟩ := hrel
            have HCI := Lib.hid hCi
            clear hCi HR hb3
            by_cases hlt : i < j
            · have hc0 := later (HC.out i (by omega)) hbj
              have hc := later hc0 hbi
              have hwk := HW.out i (by omega)
              have hol := HL.out i (by omega)
              obtain ⟨o, ho⟩ : ∃ o : Nat, z.getD i 0 = o := ⟨(z.getD i 0).toNat, by omega⟩
              have HO := Lib.hid ho
              rw [ho] at hc hwk hol
              clear ho hc0
              have hol' : o < n := by omega
              obtain ⟨cc, hcc⟩ : ∃ cc : Nat, cAt z i o = cc := ⟨_, rfl⟩
              have q1 : wr.cell? ⟨wo.heap.size, o, none⟩ = some (.int .u32 (cc : Int)) := HCI.out.cellv hol' (by rw [hcc])
              have q2 := HCI.out.frozen o
              have hcl : cc ≤ 65536 := by have := cAt_le z i o; omega
              have HCC := Lib.hid hcc
              clear hcc
              go_wp2_with fail
              have HS : Cells (wr.setCell ⟨wo.heap.size, o, none⟩ (.int .u32 ((cc : Int) + 1))) wo.heap.size 24 n (fun a => .int .u32 (cAt z (i + 1) a)) := by
                refine (HCI.out.set o _).congr fun a ha => ?_
                have e1 := HO.out
                have e2 := HCC.out
                unfold upd
                rw [cAt, e1]
                unfold bump
                by_cases e : a = o
                · subst e
                  simp [e2]
                · simp [e]
              go_roundw
              case rel => exact ⟨i + 1, by omega, by go_num, HS, by go_grown⟩
              case measure => simp [intOf]; omega
            · obtain rfl : i = j := by omega
              clear hlt
              go_wp2_with fail
              go_loopw [20, 19] (fun v20 v19 wr => ∃ l : Nat, l ≤ n ∧ v20 = .int .i64 l ∧ v19 = .int .i64 ((if false && !false then dist (cAt z i) l else 0 : Nat) : Int) ∧ Cells wr wo.heap.size 24 n (fun o => .int .u32 (cAt z i o)) ∧ Below wo.heap.size wo wr) (fun v20 _ _ => n - (intOf v20).toNat)
              case atStart => exact ⟨0, Nat.zero_le _, rfl, rfl, HCI.out, hbi⟩
              case round =>
                obtain ⟨l, hl', rfl, rfl, hCl, hbl⟩ := hrel
                have HCL := Lib.hid hCl
                have HML := Lib.hid (HMJ.out.later (fun a ha => hbl.block a ha))
                clear hCl HCI hbi
                by_cases hlt : l < n
                · obtain ⟨cc, hcc⟩ : ∃ cc : Nat, cAt z i l = cc := ⟨_, rfl⟩
                  have q1 : wr.cell? ⟨wo.heap.size, l, none⟩ = some (.int .u32 (cc : Int)) := HCL.out.cellv hlt (by rw [hcc])
                  have hcl : cc ≤ 65536 := by have := cAt_le z i l; omega
                  have hd : dist (cAt z i) (l + 1) = dist (cAt z i) l + if cc = 0 then 0 else 1 := by rw [dist, hcc]
                  have hdl := dist_le (cAt z i) l
                  have u9 := use9 p S T Z q m n l _ _ _ _ wr hlt (by omega) HML.out
                  have u10 := ts10 p S T Z q m n l _ _ _ _ wr hlt (by omega) HML.out
                  have u11 := part11 p S T Z q m n l _ _ _ _ wr hlt (by omega) HML.out
                  unfold inPart at u11
                  rw [hcc] at u9 u10 u11
                  have HD := Lib.hid hd
                  have hzz := HCL.out.lt
                  clear hd hcc
                  by_cases h0 : cc = 0
                  · subst h0
                    simp at u9 u10 u11
                    have U9 := Lib.hid u9
                    have U10 := Lib.hid u10
                    have U11 := Lib.hid u11
                    clear u9 u10 u11
                    go_wp2_with fail
                    refine U9.out.mono ?_
                    rintro e w4 ⟨rfl, rfl⟩
                    go_wp2_with fail
                    refine U10.out.mono ?_
                    rintro e w4 ⟨rfl, rfl⟩
                    go_wp2_with fail
                    refine U11.out.mono ?_
                    rintro e w5 ⟨rfl, b5⟩
                    have q5 := later q1 b5
                    have C5 := HCL.out.below b5 hzz
                    have B5 := hbl.trans (b5.mono hbl.size)
                    clear b5
                    have C5' := Lib.hid C5
                    clear C5
                    go_wp2_with fail
                    go_roundw
                    case rel => exact ⟨l + 1, by omega, by go_num, by (simp [HD.out]), C5'.out, B5⟩
                    case measure => simp [intOf]; omega
                  · have hcb : (cc == 0) = false := by simpa using h0
                    have hpos : 0 < cc := by omega
                    rw [hcb] at u11
                    simp at u9 u10 u11
                    have U9 := Lib.hid u9
                    have U10 := Lib.hid u10
                    have U11 := Lib.hid u11
                    have H0 := Lib.hid h0
                    clear u9 u10 u11 hcb h0
                    go_wp2_with fail
                    refine U9.out.mono ?_
                    rintro e w4 ⟨rfl, rfl⟩
                    go_wp2_with fail
                    refine U10.out.mono ?_
                    rintro e w4 ⟨rfl, rfl⟩
                    go_wp2_with fail
                    refine U11.out.mono ?_
                    rintro e w5 ⟨rfl, b5⟩
                    have q5 := later q1 b5
                    have C5 := HCL.out.below b5 hzz
                    have B5 := hbl.trans (b5.mono hbl.size)
                    clear b5
                    have C5' := Lib.hid C5
                    clear C5
                    go_wp2_with fail
                    go_roundw
                    case rel => exact ⟨l + 1, by omega, by go_num, by (simp [HD.out, H0.out]), C5'.out, B5⟩
                    case measure => simp [intOf]; omega
                · obtain rfl : l = n := by omega
                  clear hlt
                  go_wp2_with fail
                  refine (len12 p S T Z q m l _ _ _ _ _ HML.out).mono ?_
                  rintro e w4 ⟨rfl, rfl⟩
                  go_wp2_with fail
                  go_ret
                  exact ⟨by simp, hbj.trans (hbl.mono hsz)⟩

theorem walk_ttt (x : Addr) (n len cap : Nat) (z : List Int) (w : World) (hn1 : 1 ≤ n) (hn2 : n ≤ 4096) (hl : len ≤ 65536) (hcell : ∀ i, i < len → w.cell? (x.add i) = some (.int .u32 (z.getD i 0))) (hwf : ∀ i, i < len → 0 ≤ z.getD i 0 ∧ z.getD i 0 ≤ 4294967295) :
    Calls Try.prog 3 #[.int .i64 n, .slice (some x) len cap, .bool true, .bool true, .bool true] w fun e w' => e = .returned (.bool true) ∧ Below w.heap.size w w' := by
  have hm1 := info_parts info24
  obtain ⟨j0, gi, gz0, gz1, gz2⟩ := hm1
  have HC := Lib.hid hcell
  have HW := Lib.hid hwf
  clear hcell hwf
  go_enter Try.func3, Try.ntmps3
  go_wp2_with fail
  refine (zz6 _ _ _ _ _ _ _ _ (by omega)).mono ?_
  rintro e w1 ⟨rfl, rfl⟩
  have hd1 : decide (len ≤ 1048576) = true := by simp; omega
  go_wp2_with fail
  go_loop [45, 12] (fun v45 _ => ∃ k : Nat, k ≤ len ∧ v45 = .int .i64 k ∧ ∀ i, i < k → z.getD i 0 < n) (fun v45 _ => len - (intOf v45).toNat)
  case atStart => exact ⟨0, Nat.zero_le _, rfl, fun i hi => by omega⟩
  case round =>
    obtain ⟨k, hk, rfl, hlo⟩ := hrel
    have HL := Lib.hid hlo
    clear hlo
    by_cases hlt : k < len
    · have hc := HC.out k hlt
      have hwk := HW.out k hlt
      obtain ⟨o, ho⟩ : ∃ o : Nat, z.getD k 0 = o := ⟨(z.getD k 0).toNat, by omega⟩
      have HO := Lib.hid ho
      rw [ho] at hc hwk
      clear ho
      by_cases hge : n ≤ o
      · go_wp2_with fail
        go_ret
        exact ⟨rfl, Below.refl _ _⟩
      · have HN : Hid (∀ i, i < k + 1 → z.getD i 0 < n) := fun i hi => by
          by_cases e : i = k
          · rw [e, HO.out]; omega
          · exact HL.out i (by omega)
        go_wp2_with fail
        go_round
        case rel => exact ⟨k + 1, by omega, by go_num, HN.out⟩
        case measure => simp [intOf]; omega
    · obtain rfl : k = len := by omega
      clear hlt
      go_wp2_with fail
      refine (make7 n _ _ _ _ hn1 hn2).mono ?_
      rintro e w2 ⟨p, S, T, Z, q, m, rfl, hM, hge, hb⟩
      have HM := Lib.hid hM
      have HG := Lib.hid hge
      clear hM hge
      go_wp2_with fail
      go_loopw [61, 15] (fun v61 _ wr => ∃ j : Nat, j ≤ k ∧ v61 = .int .i64 j ∧ Made wr p S T Z q m n true true true (cAt z j) ∧ Below w.heap.size w wr) (fun v61 _ _ => k - (intOf v61).toNat)
      case atStart => exact ⟨0, Nat.zero_le _, rfl, HM.out, hb⟩
      case round =>
        obtain ⟨j, hj, rfl, hMj, hbj⟩ := hrel
        have HMJ := Lib.hid hMj
        clear hMj HM hb
        by_cases hlt : j < k
        · have hc := later (HC.out j (by omega)) hbj
          have hwk := HW.out j (by omega)
          have hol := HL.out j (by omega)
          obtain ⟨o, ho⟩ : ∃ o : Nat, z.getD j 0 = o := ⟨(z.getD j 0).toNat, by omega⟩
          have HO := Lib.hid ho
          rw [ho] at hc hwk hol
          clear ho
          have hol' : o < n := by omega
          go_wp2_with fail
          refine (record8 p S T q m n o _ _ _ (cAt z j) _ hol' (by omega) (by have := cAt_le z j o; omega) HMJ.out.1).mono ?_
          rintro e w3 ⟨rfl, h3, f3⟩
          have hM3 : Hid (Made w3 p S T Z q m n true true true (cAt z (j + 1))) := by
            have := HMJ.out.step h3 f3
            unfold Hid
            rw [cAt, HO.out]
            exact this
          have hb3 : Below w.heap.size w w3 := hbj.trans (f3.below (by rintro i (rfl | rfl | rfl); exact HG.out.1; exact HG.out.2.1; exact HG.out.2.2) hbj.size)
          clear h3 f3
          go_wp2_with fail
          go_roundw
          case rel => exact ⟨j + 1, by omega, by go_num, hM3.out, hb3⟩
          case measure => simp [intOf]; omega
        · obtain rfl : j = k := by omega
          clear hlt
          have hsz := hbj.size
          go_wp2_with (at_make; refine wpList_make_full _ rfl _ _ 22 rfl w.heap.size 24 j0 _ 1 Try.underlying22 gi gz0 gz1 .i64 .i64 _ _ n rfl rfl rfl rfl (by rw [gz2]; omega) (by unfold maxLen; omega) (by omega) ?_)
          intro w3 hown hgrow
          obtain ⟨wo, rfl⟩ : ∃ wo : World, wo = wr := ⟨_, rfl⟩
          have hb3 : Below wo.heap.size wo w3 := Below.grown (Below.refl _ _) hgrow (Nat.le_refl _) (fun k hk => by cases hk)
          have hR : Cells w3 wo.heap.size 24 n (fun i => .int .u32 (cAt z 0 i)) := made1 hown
          have HR := Lib.hid hR
          clear hown hgrow gi gz0 gz1 gz2 j0 hR
          go_wp2_with fail
          go_loopw [73, 18] (fun v73 _ wr => ∃ i : Nat, i ≤ j ∧ v73 = .int .i64 i ∧ Cells wr wo.heap.size 24 n (fun o => .int .u32 (cAt z i o)) ∧ Below wo.heap.size wo wr) (fun v73 _ _ => j - (intOf v73).toNat)
          case atStart => exact ⟨0, Nat.zero_le _, rfl, HR.out, hb3⟩
          case round =>
            obtain ⟨i, hi, rfl, hCi, hbi⟩ := hrel
            have HCI := Lib.hid hCi
            clear hCi HR hb3
            by_cases hlt : i < j
            · have hc0 := later (HC.out i (by omega)) hbj
              have hc := later hc0 hbi
              have hwk := HW.out i (by omega)
              have hol := HL.out i (by omega)
              obtain ⟨o, ho⟩ : ∃ o : Nat, z.getD i 0 = o := ⟨(z.getD i 0).toNat, by omega⟩
              have HO := Lib.hid ho
              rw [ho] at hc hwk hol
              clear ho hc0
              have hol' : o < n := by omega
              obtain ⟨cc, hcc⟩ : ∃ cc : Nat, cAt z i o = cc := ⟨_, rfl⟩
              have q1 : wr.cell? ⟨wo.heap.size, o, none⟩ = some (.int .u32 (cc : Int)) := HCI.out.cellv hol' (by rw [hcc])
              have q2 := HCI.out.frozen o
              have hcl : cc ≤ 65536 := by have := cAt_le z i o; omega
              have HCC := Lib.hid hcc
              clear hcc
              go_wp2_with fail
              have HS : Cells (wr.setCell ⟨wo.heap.size, o, none⟩ (.int .u32 ((cc : Int) + 1))) wo.heap.size 24 n (fun a => .int .u32 (cAt z (i + 1) a)) := by
                refine (HCI.out.set o _).congr fun a ha => ?_
                have e1 := HO.out
                have e2 := HCC.out
                unfold upd
                rw [cAt, e1]
                unfold bump
                by_cases e : a = o
                · subst e
                  simp [e2]
                · simp [e]
              go_roundw
              case rel => exact ⟨i + 1, by omega, by go_num, HS, by go_grown⟩
              case measure => simp [intOf]; omega
            · obtain rfl : i = j := by omega
              clear hlt
              go_wp2_with fail
              go_loopw [20, 19] (fun v20 v19 wr => ∃ l : Nat, l ≤ n ∧ v20 = .int .i64 l ∧ v19 = .int .i64 ((if true && !true then dist (cAt z i) l else 0 : Nat) : Int) ∧ Cells wr wo.heap.size 24 n (fun o => .int .u32 (cAt z i o)) ∧ Below wo.heap.size wo wr) (fun v20 _ _ => n - (intOf v20).toNat)
              case atStart => exact ⟨0, Nat.zero_le _, rfl, rfl, HCI.out, hbi⟩
              case round =>
                obtain ⟨l, hl', rfl, rfl, hCl, hbl⟩ := hrel
                have HCL := Lib.hid hCl
                have HML := Lib.hid (HMJ.out.later (fun a ha => hbl.block a ha))
                clear hCl HCI hbi
                by_cases hlt : l < n
                · obtain ⟨cc, hcc⟩ : ∃ cc : Nat, cAt z i l = cc := ⟨_, rfl⟩
                  have q1 : wr.cell? ⟨wo.heap.size, l, none⟩ = some (.int .u32 (cc : Int)) := HCL.out.cellv hlt (by rw [hcc])
                  have hcl : cc ≤ 65536 := by have := cAt_le z i l; omega
                  have hd : dist (cAt z i) (l + 1) = dist (cAt z i) l + if cc = 0 then 0 else 1 := by rw [dist, hcc]
                  have hdl := dist_le (cAt z i) l
                  have u9 := use9 p S T Z q m n l _ _ _ _ wr hlt (by omega) HML.out
                  have u10 := ts10 p S T Z q m n l _ _ _ _ wr hlt (by omega) HML.out
                  have u11 := part11 p S T Z q m n l _ _ _ _ wr hlt (by omega) HML.out
                  unfold inPart at u11
                  rw [hcc] at u9 u10 u11
                  have HD := Lib.hid hd
                  have hzz := HCL.out.lt
                  clear hd hcc
                  by_cases h0 : cc = 0
                  · subst h0
                    simp at u9 u10 u11
                    have U9 := Lib.hid u9
                    have U10 := Lib.hid u10
                    have U11 := Lib.hid u11
                    clear u9 u10 u11
                    go_wp2_with fail
                    refine U9.out.mono ?_
                    rintro e w4 ⟨rfl, rfl⟩
                    go_wp2_with fail
                    refine U10.out.mono ?_
                    rintro e w4 ⟨rfl, rfl⟩
                    go_wp2_with fail
                    refine U11.out.mono ?_
                    rintro e w5 ⟨rfl, b5⟩
                    have q5 := later q1 b5
                    have C5 := HCL.out.below b5 hzz
                    have B5 := hbl.trans (b5.mono hbl.size)
                    clear b5
                    have C5' := Lib.hid C5
                    clear C5
                    go_wp2_with fail
                    go_roundw
                    case rel => exact ⟨l + 1, by omega, by go_num, by (simp [HD.out]), C5'.out, B5⟩
                    case measure => simp [intOf]; omega
                  · have hcb : (cc == 0) = false := by simpa using h0
                    have hpos : 0 < cc := by omega
                    rw [hcb] at u11
                    simp at u9 u10 u11
                    have U9 := Lib.hid u9
                    have U10 := Lib.hid u10
                    have U11 := Lib.hid u11
                    have H0 := Lib.hid h0
                    clear u9 u10 u11 hcb h0
                    go_wp2_with fail
                    refine U9.out.mono ?_
                    rintro e w4 ⟨rfl, rfl⟩
                    go_wp2_with fail
                    refine U10.out.mono ?_
                    rintro e w4 ⟨rfl, rfl⟩
                    go_wp2_with fail
                    refine U11.out.mono ?_
                    rintro e w5 ⟨rfl, b5⟩
                    have q5 := later q1 b5
                    have C5 := HCL.out.below b5 hzz
                    have B5 := hbl.trans (b5.mono hbl.size)
                    clear b5
                    have C5' := Lib.hid C5
                    clear C5
                    go_wp2_with fail
                    go_roundw
                    case rel => exact ⟨l + 1, by omega, by go_num, by (simp [HD.out, H0.out]), C5'.out, B5⟩
                    case measure => simp [intOf]; omega
                · obtain rfl : l = n := by omega
                  clear hlt
                  go_wp2_with fail
                  refine (len12 p S T Z q m l _ _ _ _ _ HML.out).mono ?_
                  rintro e w4 ⟨rfl, rfl⟩
                  go_wp2_with fail
                  go_ret
                  exact ⟨by simp, hbj.trans (hbl.mono hsz)⟩

theorem walk_ttf (x : Addr) (n len cap : Nat) (z : List Int) (w : World) (hn1 : 1 ≤ n) (hn2 : n ≤ 4096) (hl : len ≤ 65536) (hcell : ∀ i, i < len → w.cell? (x.add i) = some (.int .u32 (z.getD i 0))) (hwf : ∀ i, i < len → 0 ≤ z.getD i 0 ∧ z.getD i 0 ≤ 4294967295) :
    Calls Try.prog 3 #[.int .i64 n, .slice (some x) len cap, .bool true, .bool true, .bool false] w fun e w' => e = .returned (.bool true) ∧ Below w.heap.size w w' := by
  have hm1 := info_parts info24
  obtain ⟨j0, gi, gz0, gz1, gz2⟩ := hm1
  have HC := Lib.hid hcell
  have HW := Lib.hid hwf
  clear hcell hwf
  go_enter Try.func3, Try.ntmps3
  go_wp2_with fail
  refine (zz6 _ _ _ _ _ _ _ _ (by omega)).mono ?_
  rintro e w1 ⟨rfl, rfl⟩
  have hd1 : decide (len ≤ 1048576) = true := by simp; omega
  go_wp2_with fail
  go_loop [45, 12] (fun v45 _ => ∃ k : Nat, k ≤ len ∧ v45 = .int .i64 k ∧ ∀ i, i < k → z.getD i 0 < n) (fun v45 _ => len - (intOf v45).toNat)
  case atStart => exact ⟨0, Nat.zero_le _, rfl, fun i hi => by omega⟩
  case round =>
    obtain ⟨k, hk, rfl, hlo⟩ := hrel
    have HL := Lib.hid hlo
    clear hlo
    by_cases hlt : k < len
    · have hc := HC.out k hlt
      have hwk := HW.out k hlt
      obtain ⟨o, ho⟩ : ∃ o : Nat, z.getD k 0 = o := ⟨(z.getD k 0).toNat, by omega⟩
      have HO := Lib.hid ho
      rw [ho] at hc hwk
      clear ho
      by_cases hge : n ≤ o
      · go_wp2_with fail
        go_ret
        exact ⟨rfl, Below.refl _ _⟩
      · have HN : Hid (∀ i, i < k + 1 → z.getD i 0 < n) := fun i hi => by
          by_cases e : i = k
          · rw [e, HO.out]; omega
          · exact HL.out i (by omega)
        go_wp2_with fail
        go_round
        case rel => exact ⟨k + 1, by omega, by go_num, HN.out⟩
        case measure => simp [intOf]; omega
    · obtain rfl : k = len := by omega
      clear hlt
      go_wp2_with fail
      refine (make7 n _ _ _ _ hn1 hn2).mono ?_
      rintro e w2 ⟨p, S, T, Z, q, m, rfl, hM, hge, hb⟩
      have HM := Lib.hid hM
      have HG := Lib.hid hge
      clear hM hge
      go_wp2_with fail
      go_loopw [61, 15] (fun v61 _ wr => ∃ j : Nat, j ≤ k ∧ v61 = .int .i64 j ∧ Made wr p S T Z q m n true true false (cAt z j) ∧ Below w.heap.size w wr) (fun v61 _ _ => k - (intOf v61).toNat)
      case atStart => exact ⟨0, Nat.zero_le _, rfl, HM.out, hb⟩
      case round =>
        obtain ⟨j, hj, rfl, hMj, hbj⟩ := hrel
        have HMJ := Lib.hid hMj
        clear hMj HM hb
        by_cases hlt : j < k
        · have hc := later (HC.out j (by omega)) hbj
          have hwk := HW.out j (by omega)
          have hol := HL.out j (by omega)
          obtain ⟨o, ho⟩ : ∃ o : Nat, z.getD j 0 = o := ⟨(z.getD j 0).toNat, by omega⟩
          have HO := Lib.hid ho
          rw [ho] at hc hwk hol
          clear ho
          have hol' : o < n := by omega
          go_wp2_with fail
          refine (record8 p S T q m n o _ _ _ (cAt z j) _ hol' (by omega) (by have := cAt_le z j o; omega) HMJ.out.1).mono ?_
          rintro e w3 ⟨rfl, h3, f3⟩
          have hM3 : Hid (Made w3 p S T Z q m n true true false (cAt z (j + 1))) := by
            have := HMJ.out.step h3 f3
            unfold Hid
            rw [cAt, HO.out]
            exact this
          have hb3 : Below w.heap.size w w3 := hbj.trans (f3.below (by rintro i (rfl | rfl | rfl); exact HG.out.1; exact HG.out.2.1; exact HG.out.2.2) hbj.size)
          clear h3 f3
          go_wp2_with fail
          go_roundw
          case rel => exact ⟨j + 1, by omega, by go_num, hM3.out, hb3⟩
          case measure => simp [intOf]; omega
        · obtain rfl : j = k := by omega
          clear hlt
          have hsz := hbj.size
          go_wp2_with (at_make; refine wpList_make_full _ rfl _ _ 22 rfl w.heap.size 24 j0 _ 1 Try.underlying22 gi gz0 gz1 .i64 .i64 _ _ n rfl rfl rfl rfl (by rw [gz2]; omega) (by unfold maxLen; omega) (by omega) ?_)
          intro w3 hown hgrow
          obtain ⟨wo, rfl⟩ : ∃ wo : World, wo = wr := ⟨_, rfl⟩
          have hb3 : Below wo.heap.size wo w3 := Below.grown (Below.refl _ _) hgrow (Nat.le_refl _) (fun k hk => by cases hk)
          have hR : Cells w3 wo.heap.size 24 n (fun i => .int .u32 (cAt z 0 i)) := made1 hown
          have HR := Lib.hid hR
          clear hown hgrow gi gz0 gz1 gz2 j0 hR
          go_wp2_with fail
          go_loopw [73, 18] (fun v73 _ wr => ∃ i : Nat, i ≤ j ∧ v73 = .int .i64 i ∧ Cells wr wo.heap.size 24 n (fun o => .int .u32 (cAt z i o)) ∧ Below wo.heap.size wo wr) (fun v73 _ _ => j - (intOf v73).toNat)
          case atStart => exact ⟨0, Nat.zero_le _, rfl, HR.out, hb3⟩
          case round =>
            obtain ⟨i, hi, rfl, hCi, hbi⟩ := hrel
            have HCI := Lib.hid hCi
            clear hCi HR hb3
            by_cases hlt : i < j
            · have hc0 := later (HC.out i (by omega)) hbj
              have hc := later hc0 hbi
              have hwk := HW.out i (by omega)
              have hol := HL.out i (by omega)
              obtain ⟨o, ho⟩ : ∃ o : Nat, z.getD i 0 = o := ⟨(z.getD i 0).toNat, by omega⟩
              have HO := Lib.hid ho
              rw [ho] at hc hwk hol
              clear ho hc0
              have hol' : o < n := by omega
              obtain ⟨cc, hcc⟩ : ∃ cc : Nat, cAt z i o = cc := ⟨_, rfl⟩
              have q1 : wr.cell? ⟨wo.heap.size, o, none⟩ = some (.int .u32 (cc : Int)) := HCI.out.cellv hol' (by rw [hcc])
              have q2 := HCI.out.frozen o
              have hcl : cc ≤ 65536 := by have := cAt_le z i o; omega
              have HCC := Lib.hid hcc
              clear hcc
              go_wp2_with fail
              have HS : Cells (wr.setCell ⟨wo.heap.size, o, none⟩ (.int .u32 ((cc : Int) + 1))) wo.heap.size 24 n (fun a => .int .u32 (cAt z (i + 1) a)) := by
                refine (HCI.out.set o _).congr fun a ha => ?_
                have e1 := HO.out
                have e2 := HCC.out
                unfold upd
                rw [cAt, e1]
                unfold bump
                by_cases e : a = o
                · subst e
                  simp [e2]
                · simp [e]
              go_roundw
              case rel => exact ⟨i + 1, by omega, by go_num, HS, by go_grown⟩
              case measure => simp [intOf]; omega
            · obtain rfl : i = j := by omega
              clear hlt
              go_wp2_with fail
              go_loopw [20, 19] (fun v20 v19 wr => ∃ l : Nat, l ≤ n ∧ v20 = .int .i64 l ∧ v19 = .int .i64 ((if false && !true then dist (cAt z i) l else 0 : Nat) : Int) ∧ Cells wr wo.heap.size 24 n (fun o => .int .u32 (cAt z i o)) ∧ Below wo.heap.size wo wr) (fun v20 _ _ => n - (intOf v20).toNat)
              case atStart => exact ⟨0, Nat.zero_le _, rfl, rfl, HCI.out, hbi⟩
              case round =>
                obtain ⟨l, hl', rfl, rfl, hCl, hbl⟩ := hrel
                have HCL := Lib.hid hCl
                have HML := Lib.hid (HMJ.out.later (fun a ha => hbl.block a ha))
                clear hCl HCI hbi
                by_cases hlt : l < n
                · obtain ⟨cc, hcc⟩ : ∃ cc : Nat, cAt z i l = cc := ⟨_, rfl⟩
                  have q1 : wr.cell? ⟨wo.heap.size, l, none⟩ = some (.int .u32 (cc : Int)) := HCL.out.cellv hlt (by rw [hcc])
                  have hcl : cc ≤ 65536 := by have := cAt_le z i l; omega
                  have hd : dist (cAt z i) (l + 1) = dist (cAt z i) l + if cc = 0 then 0 else 1 := by rw [dist, hcc]
                  have hdl := dist_le (cAt z i) l
                  have u9 := use9 p S T Z q m n l _ _ _ _ wr hlt (by omega) HML.out
                  have u10 := ts10 p S T Z q m n l _ _ _ _ wr hlt (by omega) HML.out
                  have u11 := part11 p S T Z q m n l _ _ _ _ wr hlt (by omega) HML.out
                  unfold inPart at u11
                  rw [hcc] at u9 u10 u11
                  have HD := Lib.hid hd
                  have hzz := HCL.out.lt
                  clear hd hcc
                  by_cases h0 : cc = 0
                  · subst h0
                    simp at u9 u10 u11
                    have U9 := Lib.hid u9
                    have U10 := Lib.hid u10
                    have U11 := Lib.hid u11
                    clear u9 u10 u11
                    go_wp2_with fail
                    refine U9.out.mono ?_
                    rintro e w4 ⟨rfl, rfl⟩
                    go_wp2_with fail
                    refine U10.out.mono ?_
                    rintro e w4 ⟨rfl, rfl⟩
                    go_wp2_with fail
                    refine U11.out.mono ?_
                    rintro e w5 ⟨rfl, b5⟩
                    have q5 := later q1 b5
                    have C5 := HCL.out.below b5 hzz
                    have B5 := hbl.trans (b5.mono hbl.size)
                    clear b5
                    have C5' := Lib.hid C5
                    clear C5
                    go_wp2_with fail
                    go_roundw
                    case rel => exact ⟨l + 1, by omega, by go_num, by (simp [HD.out]), C5'.out, B5⟩
                    case measure => simp [intOf]; omega
                  · have hcb : (cc == 0) = false := by simpa using h0
                    have hpos : 0 < cc := by omega
                    rw [hcb] at u11
                    simp at u9 u10 u11
                    have U9 := Lib.hid u9
                    have U10 := Lib.hid u10
                    have U11 := Lib.hid u11
                    have H0 := Lib.hid h0
                    clear u9 u10 u11 hcb h0
                    go_wp2_with fail
                    refine U9.out.mono ?_
                    rintro e w4 ⟨rfl, rfl⟩
                    go_wp2_with fail
                    refine U10.out.mono ?_
                    rintro e w4 ⟨rfl, rfl⟩
                    go_wp2_with fail
                    refine U11.out.mono ?_
                    rintro e w5 ⟨rfl, b5⟩
                    have q5 := later q1 b5
                    have C5 := HCL.out.below b5 hzz
                    have B5 := hbl.trans (b5.mono hbl.size)
                    clear b5
                    have C5' := Lib.hid C5
                    clear C5
                    go_wp2_with fail
                    go_roundw
                    case rel => exact ⟨l + 1, by omega, by go_num, by (simp [HD.out, H0.out]), C5'.out, B5⟩
                    case measure => simp [intOf]; omega
                · obtain rfl : l = n := by omega
                  clear hlt
                  go_wp2_with fail
                  refine (len12 p S T Z q m l _ _ _ _ _ HML.out).mono ?_
                  rintro e w4 ⟨rfl, rfl⟩
                  go_wp2_with fail
                  go_ret
                  exact ⟨by simp, hbj.trans (hbl.mono hsz)⟩

theorem walk_tft (x : Addr) (n len cap : Nat) (z : List Int) (w : World) (hn1 : 1 ≤ n) (hn2 : n ≤ 4096) (hl : len ≤ 65536) (hcell : ∀ i, i < len → w.cell? (x.add i) = some (.int .u32 (z.getD i 0))) (hwf : ∀ i, i < len → 0 ≤ z.getD i 0 ∧ z.getD i 0 ≤ 4294967295) :
    Calls Try.prog 3 #[.int .i64 n, .slice (some x) len cap, .bool true, .bool false, .bool true] w fun e w' => e = .returned (.bool true) ∧ Below w.heap.size w w' := by
  have hm1 := info_parts info24
  obtain ⟨j0, gi, gz0, gz1, gz2⟩ := hm1
  have HC := Lib.hid hcell
  have HW := Lib.hid hwf
  clear hcell hwf
  go_enter Try.func3, Try.ntmps3
  go_wp2_with fail
  refine (zz6 _ _ _ _ _ _ _ _ (by omega)).mono ?_
  rintro e w1 ⟨rfl, rfl⟩
  have hd1 : decide (len ≤ 1048576) = true := by simp; omega
  go_wp2_with fail
  go_loop [45, 12] (fun v45 _ => ∃ k : Nat, k ≤ len ∧ v45 = .int .i64 k ∧ ∀ i, i < k → z.getD i 0 < n) (fun v45 _ => len - (intOf v45).toNat)
  case atStart => exact ⟨0, Nat.zero_le _, rfl, fun i hi => by omega⟩
  case round =>
    obtain ⟨k, hk, rfl, hlo⟩ := hrel
    have HL := Lib.hid hlo
    clear hlo
    by_cases hlt : k < len
    · have hc := HC.out k hlt
      have hwk := HW.out k hlt
      obtain ⟨o, ho⟩ : ∃ o : Nat, z.getD k 0 = o := ⟨(z.getD k 0).toNat, by omega⟩
      have HO := Lib.hid ho
      rw [ho] at hc hwk
      clear ho
      by_cases hge : n ≤ o
      · go_wp2_with fail
        go_ret
        exact ⟨rfl, Below.refl _ _⟩
      · have HN : Hid (∀ i, i < k + 1 → z.getD i 0 < n) := fun i hi => by
          by_cases e : i = k
          · rw [e, HO.out]; omega
          · exact HL.out i (by omega)
        go_wp2_with fail
        go_round
        case rel => exact ⟨k + 1, by omega, by go_num, HN.out⟩
        case measure => simp [intOf]; omega
    · obtain rfl : k = len := by omega
      clear hlt
      go_wp2_with fail
      refine (make7 n _ _ _ _ hn1 hn2).mono ?_
      rintro e w2 ⟨p, S, T, Z, q, m, rfl, hM, hge, hb⟩
      have HM := Lib.hid hM
      have HG := Lib.hid hge
      clear hM hge
      go_wp2_with fail
      go_loopw [61, 15] (fun v61 _ wr => ∃ j : Nat, j ≤ k ∧ v61 = .int .i64 j ∧ Made wr p S T Z q m n true false true (cAt z j) ∧ Below w.heap.size w wr) (fun v61 _ _ => k - (intOf v61).toNat)
      case atStart => exact ⟨0, Nat.zero_le _, rfl, HM.out, hb⟩
      case round =>
        obtain ⟨j, hj, rfl, hMj, hbj⟩ := hrel
        have HMJ := Lib.hid hMj
        clear hMj HM hb
        by_cases hlt : j < k
        · have hc := later (HC.out j (by omega)) hbj
          have hwk := HW.out j (by omega)
          have hol := HL.out j (by omega)
          obtain ⟨o, ho⟩ : ∃ o : Nat, z.getD j 0 = o := ⟨(z.getD j 0).toNat, by omega⟩
          have HO := Lib.hid ho
          rw [ho] at hc hwk hol
          clear ho
          have hol' : o < n := by omega
          go_wp2_with fail
          refine (record8 p S T q m n o _ _ _ (cAt z j) _ hol' (by omega) (by have := cAt_le z j o; omega) HMJ.out.1).mono ?_
          rintro e w3 ⟨rfl, h3, f3⟩
          have hM3 : Hid (Made w3 p S T Z q m n true false true (cAt z (j + 1))) := by
            have := HMJ.out.step h3 f3
            unfold Hid
            rw [cAt, HO.out]
            exact this
          have hb3 : Below w.heap.size w w3 := hbj.trans (f3.below (by rintro i (rfl | rfl | rfl); exact HG.out.1; exact HG.out.2.1; exact HG.out.2.2) hbj.size)
          clear h3 f3
          go_wp2_with fail
          go_roundw
          case rel => exact ⟨j + 1, by omega, by go_num, hM3.out, hb3⟩
          case measure => simp [intOf]; omega
        · obtain rfl : j = k := by omega
          clear hlt
          have hsz := hbj.size
          go_wp2_with (at_make; refine wpList_make_full _ rfl _ _ 22 rfl w.heap.size 24 j0 _ 1 Try.underlying22 gi gz0 gz1 .i64 .i64 _ _ n rfl rfl rfl rfl (by rw [gz2]; omega) (by unfold maxLen; omega) (by omega) ?_)
          intro w3 hown hgrow
          obtain ⟨wo, rfl⟩ : ∃ wo : World, wo = wr := ⟨_, rfl⟩
          have hb3 : Below wo.heap.size wo w3 := Below.grown (Below.refl _ _) hgrow (Nat.le_refl _) (fun k hk => by cases hk)
          have hR : Cells w3 wo.heap.size 24 n (fun i => .int .u32 (cAt z 0 i)) := made1 hown
          have HR := Lib.hid hR
          clear hown hgrow gi gz0 gz1 gz2 j0 hR
          go_wp2_with fail
          go_loopw [73, 18] (fun v73 _ wr => ∃ i : Nat, i ≤ j ∧ v73 = .int .i64 i ∧ Cells wr wo.heap.size 24 n (fun o => .int .u32 (cAt z i o)) ∧ Below wo.heap.size wo wr) (fun v73 _ _ => j - (intOf v73).toNat)
          case atStart => exact ⟨0, Nat.zero_le _, rfl, HR.out, hb3⟩
          case round =>
            obtain ⟨i, hi, rfl, hCi, hbi⟩ := hrel
            have HCI := Lib.hid hCi
            clear hCi HR hb3
            by_cases hlt : i < j
            · have hc0 := later (HC.out i (by omega)) hbj
              have hc := later hc0 hbi
              have hwk := HW.out i (by omega)
              have hol := HL.out i (by omega)
              obtain ⟨o, ho⟩ : ∃ o : Nat, z.getD i 0 = o := ⟨(z.getD i 0).toNat, by omega⟩
              have HO := Lib.hid ho
              rw [ho] at hc hwk hol
              clear ho hc0
              have hol' : o < n := by omega
              obtain ⟨cc, hcc⟩ : ∃ cc : Nat, cAt z i o = cc := ⟨_, rfl⟩
              have q1 : wr.cell? ⟨wo.heap.size, o, none⟩ = some (.int .u32 (cc : Int)) := HCI.out.cellv hol' (by rw [hcc])
              have q2 := HCI.out.frozen o
              have hcl : cc ≤ 65536 := by have := cAt_le z i o; omega
              have HCC := Lib.hid hcc
              clear hcc
              go_wp2_with fail
              have HS : Cells (wr.setCell ⟨wo.heap.size, o, none⟩ (.int .u32 ((cc : Int) + 1))) wo.heap.size 24 n (fun a => .int .u32 (cAt z (i + 1) a)) := by
                refine (HCI.out.set o _).congr fun a ha => ?_
                have e1 := HO.out
                have e2 := HCC.out
                unfold upd
                rw [cAt, e1]
                unfold bump
                by_cases e : a = o
                · subst e
                  simp [e2]
                · simp [e]
              go_roundw
              case rel => exact ⟨i + 1, by omega, by go_num, HS, by go_grown⟩
              case measure => simp [intOf]; omega
            · obtain rfl : i = j := by omega
              clear hlt
              go_wp2_with fail
              go_loopw [20, 19] (fun v20 v19 wr => ∃ l : Nat, l ≤ n ∧ v20 = .int .i64 l ∧ v19 = .int .i64 ((if true && !true then dist (cAt z i) l else 0 : Nat) : Int) ∧ Cells wr wo.heap.size 24 n (fun o => .int .u32 (cAt z i o)) ∧ Below wo.heap.size wo wr) (fun v20 _ _ => n - (intOf v20).toNat)
              case atStart => exact ⟨0, Nat.zero_le _, rfl, rfl, HCI.out, hbi⟩
              case round =>
                obtain ⟨l, hl', rfl, rfl, hCl, hbl⟩ := hrel
                have HCL := Lib.hid hCl
                have HML := Lib.hid (HMJ.out.later (fun a ha => hbl.block a ha))
                clear hCl HCI hbi
                by_cases hlt : l < n
                · obtain ⟨cc, hcc⟩ : ∃ cc : Nat, cAt z i l = cc := ⟨_, rfl⟩
                  have q1 : wr.cell? ⟨wo.heap.size, l, none⟩ = some (.int .u32 (cc : Int)) := HCL.out.cellv hlt (by rw [hcc])
                  have hcl : cc ≤ 65536 := by have := cAt_le z i l; omega
                  have hd : dist (cAt z i) (l + 1) = dist (cAt z i) l + if cc = 0 then 0 else 1 := by rw [dist, hcc]
                  have hdl := dist_le (cAt z i) l
                  have u9 := use9 p S T Z q m n l _ _ _ _ wr hlt (by omega) HML.out
                  have u10 := ts10 p S T Z q m n l _ _ _ _ wr hlt (by omega) HML.out
                  have u11 := part11 p S T Z q m n l _ _ _ _ wr hlt (by omega) HML.out
                  unfold inPart at u11
                  rw [hcc] at u9 u10 u11
                  have HD := Lib.hid hd
                  have hzz := HCL.out.lt
                  clear hd hcc
                  by_cases h0 : cc = 0
                  · subst h0
                    simp at u9 u10 u11
                    have U9 := Lib.hid u9
                    have U10 := Lib.hid u10
                    have U11 := Lib.hid u11
                    clear u9 u10 u11
                    go_wp2_with fail
                    refine U9.out.mono ?_
                    rintro e w4 ⟨rfl, rfl⟩
                    go_wp2_with fail
                    refine U10.out.mono ?_
                    rintro e w4 ⟨rfl, rfl⟩
                    go_wp2_with fail
                    refine U11.out.mono ?_
                    rintro e w5 ⟨rfl, b5⟩
                    have q5 := later q1 b5
                    have C5 := HCL.out.below b5 hzz
                    have B5 := hbl.trans (b5.mono hbl.size)
                    clear b5
                    have C5' := Lib.hid C5
                    clear C5
                    go_wp2_with fail
                    go_roundw
                    case rel => exact ⟨l + 1, by omega, by go_num, by (simp [HD.out]), C5'.out, B5⟩
                    case measure => simp [intOf]; omega
                  · have hcb : (cc == 0) = false := by simpa using h0
                    have hpos : 0 < cc := by omega
                    rw [hcb] at u11
                    simp at u9 u10 u11
                    have U9 := Lib.hid u9
                    have U10 := Lib.hid u10
                    have U11 := Lib.hid u11
                    have H0 := Lib.hid h0
                    clear u9 u10 u11 hcb h0
                    go_wp2_with fail
                    refine U9.out.mono ?_
                    rintro e w4 ⟨rfl, rfl⟩
                    go_wp2_with fail
                    refine U10.out.mono ?_
                    rintro e w4 ⟨rfl, rfl⟩
                    go_wp2_with fail
                    refine U11.out.mono ?_
                    rintro e w5 ⟨rfl, b5⟩
                    have q5 := later q1 b5
                    have C5 := HCL.out.below b5 hzz
                    have B5 := hbl.trans (b5.mono hbl.size)
                    clear b5
                    have C5' := Lib.hid C5
                    clear C5
                    go_wp2_with fail
                    go_roundw
                    case rel => exact ⟨l + 1, by omega, by go_num, by (simp [HD.out, H0.out]), C5'.out, B5⟩
                    case measure => simp [intOf]; omega
                · obtain rfl : l = n := by omega
                  clear hlt
                  go_wp2_with fail
                  refine (len12 p S T Z q m l _ _ _ _ _ HML.out).mono ?_
                  rintro e w4 ⟨rfl, rfl⟩
                  go_wp2_with fail
                  go_ret
                  exact ⟨by simp, hbj.trans (hbl.mono hsz)⟩

theorem walk_tff (x : Addr) (n len cap : Nat) (z : List Int) (w : World) (hn1 : 1 ≤ n) (hn2 : n ≤ 4096) (hl : len ≤ 65536) (hcell : ∀ i, i < len → w.cell? (x.add i) = some (.int .u32 (z.getD i 0))) (hwf : ∀ i, i < len → 0 ≤ z.getD i 0 ∧ z.getD i 0 ≤ 4294967295) :
    Calls Try.prog 3 #[.int .i64 n, .slice (some x) len cap, .bool true, .bool false, .bool false] w fun e w' => e = .returned (.bool true) ∧ Below w.heap.size w w' := by
  have hm1 := info_parts info24
  obtain ⟨j0, gi, gz0, gz1, gz2⟩ := hm1
  have HC := Lib.hid hcell
  have HW := Lib.hid hwf
  clear hcell hwf
  go_enter Try.func3, Try.ntmps3
  go_wp2_with fail
  refine (zz6 _ _ _ _ _ _ _ _ (by omega)).mono ?_
  rintro e w1 ⟨rfl, rfl⟩
  have hd1 : decide (len ≤ 1048576) = true := by simp; omega
  go_wp2_with fail
  go_loop [45, 12] (fun v45 _ => ∃ k : Nat, k ≤ len ∧ v45 = .int .i64 k ∧ ∀ i, i < k → z.getD i 0 < n) (fun v45 _ => len - (intOf v45).toNat)
  case atStart => exact ⟨0, Nat.zero_le _, rfl, fun i hi => by omega⟩
  case round =>
    obtain ⟨k, hk, rfl, hlo⟩ := hrel
    have HL := Lib.hid hlo
    clear hlo
    by_cases hlt : k < len
    · have hc := HC.out k hlt
      have hwk := HW.out k hlt
      obtain ⟨o, ho⟩ : ∃ o : Nat, z.getD k 0 = o := ⟨(z.getD k 0).toNat, by omega⟩
      have HO := Lib.hid ho
      rw [ho] at hc hwk
      clear ho
      by_cases hge : n ≤ o
      · go_wp2_with fail
        go_ret
        exact ⟨rfl, Below.refl _ _⟩
      · have HN : Hid (∀ i, i < k + 1 → z.getD i 0 < n) := fun i hi => by
          by_cases e : i = k
          · rw [e, HO.out]; omega
          · exact HL.out i (by omega)
        go_wp2_with fail
        go_round
        case rel => exact ⟨k + 1, by omega, by go_num, HN.out⟩
        case measure => simp [intOf]; omega
    · obtain rfl : k = len := by omega
      clear hlt
      go_wp2_with fail
      refine (make7 n _ _ _ _ hn1 hn2).mono ?_
      rintro e w2 ⟨p, S, T, Z, q, m, rfl, hM, hge, hb⟩
      have HM := Lib.hid hM
      have HG := Lib.hid hge
      clear hM hge
      go_wp2_with fail
      go_loopw [61, 15] (fun v61 _ wr => ∃ j : Nat, j ≤ k ∧ v61 = .int .i64 j ∧ Made wr p S T Z q m n true false false (cAt z j) ∧ Below w.heap.size w wr) (fun v61 _ _ => k - (intOf v61).toNat)
      case atStart => exact ⟨0, Nat.zero_le _, rfl, HM.out, hb⟩
      case round =>
        obtain ⟨j, hj, rfl, hMj, hbj⟩ := hrel
        have HMJ := Lib.hid hMj
        clear hMj HM hb
        by_cases hlt : j < k
        · have hc := later (HC.out j (by omega)) hbj
          have hwk := HW.out j (by omega)
          have hol := HL.out j (by omega)
          obtain ⟨o, ho⟩ : ∃ o : Nat, z.getD j 0 = o := ⟨(z.getD j 0).toNat, by omega⟩
          have HO := Lib.hid ho
          rw [ho] at hc hwk hol
          clear ho
          have hol' : o < n := by omega
          go_wp2_with fail
          refine (record8 p S T q m n o _ _ _ (cAt z j) _ hol' (by omega) (by have := cAt_le z j o; omega) HMJ.out.1).mono ?_
          rintro e w3 ⟨rfl, h3, f3⟩
          have hM3 : Hid (Made w3 p S T Z q m n true false false (cAt z (j + 1))) := by
            have := HMJ.out.step h3 f3
            unfold Hid
            rw [cAt, HO.out]
            exact this
          have hb3 : Below w.heap.size w w3 := hbj.trans (f3.below (by rintro i (rfl | rfl | rfl); exact HG.out.1; exact HG.out.2.1; exact HG.out.2.2) hbj.size)
          clear h3 f3
          go_wp2_with fail
          go_roundw
          case rel => exact ⟨j + 1, by omega, by go_num, hM3.out, hb3⟩
          case measure => simp [intOf]; omega
        · obtain rfl : j = k := by omega
          clear hlt
          have hsz := hbj.size
          go_wp2_with (at_make; refine wpList_make_full _ rfl _ _ 22 rfl w.heap.size 24 j0 _ 1 Try.underlying22 gi gz0 gz1 .i64 .i64 _ _ n rfl rfl rfl rfl (by rw [gz2]; omega) (by unfold maxLen; omega) (by omega) ?_)
          intro w3 hown hgrow
          obtain ⟨wo, rfl⟩ : ∃ wo : World, wo = wr := ⟨_, rfl⟩
          have hb3 : Below wo.heap.size wo w3 := Below.grown (Below.refl _ _) hgrow (Nat.le_refl _) (fun k hk => by cases hk)
          have hR : Cells w3 wo.heap.size 24 n (fun i => .int .u32 (cAt z 0 i)) := made1 hown
          have HR := Lib.hid hR
          clear hown hgrow gi gz0 gz1 gz2 j0 hR
          go_wp2_with fail
          go_loopw [73, 18] (fun v73 _ wr => ∃ i : Nat, i ≤ j ∧ v73 = .int .i64 i ∧ Cells wr wo.heap.size 24 n (fun o => .int .u32 (cAt z i o)) ∧ Below wo.heap.size wo wr) (fun v73 _ _ => j - (intOf v73).toNat)
          case atStart => exact ⟨0, Nat.zero_le _, rfl, HR.out, hb3⟩
          case round =>
            obtain ⟨i, hi, rfl, hCi, hbi⟩ := hrel
            have HCI := Lib.hid hCi
            clear hCi HR hb3
            by_cases hlt : i < j
            · have hc0 := later (HC.out i (by omega)) hbj
              have hc := later hc0 hbi
              have hwk := HW.out i (by omega)
              have hol := HL.out i (by omega)
              obtain ⟨o, ho⟩ : ∃ o : Nat, z.getD i 0 = o := ⟨(z.getD i 0).toNat, by omega⟩
              have HO := Lib.hid ho
              rw [ho] at hc hwk hol
              clear ho hc0
              have hol' : o < n := by omega
              obtain ⟨cc, hcc⟩ : ∃ cc : Nat, cAt z i o = cc := ⟨_, rfl⟩
              have q1 : wr.cell? ⟨wo.heap.size, o, none⟩ = some (.int .u32 (cc : Int)) := HCI.out.cellv hol' (by rw [hcc])
              have q2 := HCI.out.frozen o
              have hcl : cc ≤ 65536 := by have := cAt_le z i o; omega
              have HCC := Lib.hid hcc
              clear hcc
              go_wp2_with fail
              have HS : Cells (wr.setCell ⟨wo.heap.size, o, none⟩ (.int .u32 ((cc : Int) + 1))) wo.heap.size 24 n (fun a => .int .u32 (cAt z (i + 1) a)) := by
                refine (HCI.out.set o _).congr fun a ha => ?_
                have e1 := HO.out
                have e2 := HCC.out
                unfold upd
                rw [cAt, e1]
                unfold bump
                by_cases e : a = o
                · subst e
                  simp [e2]
                · simp [e]
              go_roundw
              case rel => exact ⟨i + 1, by omega, by go_num, HS, by go_grown⟩
              case measure => simp [intOf]; omega
            · obtain rfl : i = j := by omega
              clear hlt
              go_wp2_with fail
              go_loopw [20, 19] (fun v20 v19 wr => ∃ l : Nat, l ≤ n ∧ v20 = .int .i64 l ∧ v19 = .int .i64 ((if false && !true then dist (cAt z i) l else 0 : Nat) : Int) ∧ Cells wr wo.heap.size 24 n (fun o => .int .u32 (cAt z i o)) ∧ Below wo.heap.size wo wr) (fun v20 _ _ => n - (intOf v20).toNat)
              case atStart => exact ⟨0, Nat.zero_le _, rfl, rfl, HCI.out, hbi⟩
              case round =>
                obtain ⟨l, hl', rfl, rfl, hCl, hbl⟩ := hrel
                have HCL := Lib.hid hCl
                have HML := Lib.hid (HMJ.out.later (fun a ha => hbl.block a ha))
                clear hCl HCI hbi
                by_cases hlt : l < n
                · obtain ⟨cc, hcc⟩ : ∃ cc : Nat, cAt z i l = cc := ⟨_, rfl⟩
                  have q1 : wr.cell? ⟨wo.heap.size, l, none⟩ = some (.int .u32 (cc : Int)) := HCL.out.cellv hlt (by rw [hcc])
                  have hcl : cc ≤ 65536 := by have := cAt_le z i l; omega
                  have hd : dist (cAt z i) (l + 1) = dist (cAt z i) l + if cc = 0 then 0 else 1 := by rw [dist, hcc]
                  have hdl := dist_le (cAt z i) l
                  have u9 := use9 p S T Z q m n l _ _ _ _ wr hlt (by omega) HML.out
                  have u10 := ts10 p S T Z q m n l _ _ _ _ wr hlt (by omega) HML.out
                  have u11 := part11 p S T Z q m n l _ _ _ _ wr hlt (by omega) HML.out
                  unfold inPart at u11
                  rw [hcc] at u9 u10 u11
                  have HD := Lib.hid hd
                  have hzz := HCL.out.lt
                  clear hd hcc
                  by_cases h0 : cc = 0
                  · subst h0
                    simp at u9 u10 u11
                    have U9 := Lib.hid u9
                    have U10 := Lib.hid u10
                    have U11 := Lib.hid u11
                    clear u9 u10 u11
                    go_wp2_with fail
                    refine U9.out.mono ?_
                    rintro e w4 ⟨rfl, rfl⟩
                    go_wp2_with fail
                    refine U10.out.mono ?_
                    rintro e w4 ⟨rfl, rfl⟩
                    go_wp2_with fail
                    refine U11.out.mono ?_
                    rintro e w5 ⟨rfl, b5⟩
                    have q5 := later q1 b5
                    have C5 := HCL.out.below b5 hzz
                    have B5 := hbl.trans (b5.mono hbl.size)
                    clear b5
                    have C5' := Lib.hid C5
                    clear C5
                    go_wp2_with fail
                    go_roundw
                    case rel => exact ⟨l + 1, by omega, by go_num, by (simp [HD.out]), C5'.out, B5⟩
                    case measure => simp [intOf]; omega
                  · have hcb : (cc == 0) = false := by simpa using h0
                    have hpos : 0 < cc := by omega
                    rw [hcb] at u11
                    simp at u9 u10 u11
                    have U9 := Lib.hid u9
                    have U10 := Lib.hid u10
                    have U11 := Lib.hid u11
                    have H0 := Lib.hid h0
                    clear u9 u10 u11 hcb h0
                    go_wp2_with fail
                    refine U9.out.mono ?_
                    rintro e w4 ⟨rfl, rfl⟩
                    go_wp2_with fail
                    refine U10.out.mono ?_
                    rintro e w4 ⟨rfl, rfl⟩
                    go_wp2_with fail
                    refine U11.out.mono ?_
                    rintro e w5 ⟨rfl, b5⟩
                    have q5 := later q1 b5
                    have C5 := HCL.out.below b5 hzz
                    have B5 := hbl.trans (b5.mono hbl.size)
                    clear b5
                    have C5' := Lib.hid C5
                    clear C5
                    go_wp2_with fail
                    go_roundw
                    case rel => exact ⟨l + 1, by omega, by go_num, by (simp [HD.out, H0.out]), C5'.out, B5⟩
                    case measure => simp [intOf]; omega
                · obtain rfl : l = n := by omega
                  clear hlt
                  go_wp2_with fail
                  refine (len12 p S T Z q m l _ _ _ _ _ HML.out).mono ?_
                  rintro e w4 ⟨rfl, rfl⟩
                  go_wp2_with fail
                  go_ret
                  exact ⟨by simp, hbj.trans (hbl.mono hsz)⟩

end Go.Proofs.Ytlehgpnglghlkaa.fnRecordUsageCountsEveryCall
