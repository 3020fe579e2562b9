import Derived.Test.YtlehgpnglghlkaaKit
import Derived.Test.YtlehgpnglghlkaaUsF
namespace Go.Proofs.Ytlehgpnglghlkaa.fnRecordUsageCountsEveryCall
open Go.ChangeShapes Go.WideShapes Go.ChangeAt Go.RowKit
set_option linter.unusedVariables false
set_option maxRecDepth 100000
set_option maxHeartbeats 2000000


theorem nil_ftt (n len cap : Nat) (z : List Int) (w : World) (hn1 : 1 ≤ n) (hn2 : n ≤ 4096) (hlen : len ≤ 0) (hl : len ≤ 65536) :
    Calls Try.prog 3 #[.int .i64 n, .slice none len cap, .bool false, .bool true, .bool true] w fun e w' => e = .returned (.bool true) ∧ Below w.heap.size w w' := by
  have hm1 := info_parts info24
  obtain ⟨j0, gi, gz0, gz1, gz2⟩ := hm1
  go_enter Try.func3, Try.ntmps3
  go_wp2_with fail
  refine (zz6 _ _ _ _ _ _ _ _ (by omega)).mono ?_
  rintro e w1 ⟨rfl, rfl⟩
  have hd1 : decide (len ≤ 1048576) = true := by simp; omega
  go_wp2_with fail
  go_loop [45, 12] (fun v45 _ => ∃ k : Nat, k ≤ len ∧ v45 = .int .i64 k ∧ ∀ i, i < k → z.getD i 0 < n) (fun v45 _ => len - (intOf v45).toNat)
  case atStart => exact ⟨0, Nat.zero_le _, rfl, fun i hi => by omega⟩
  case round =>
    obtain ⟨k, hk, rfl, hlo⟩ := hrel
    have HL := Lib.hid hlo
    clear hlo
    by_cases hlt : k < len
    · exact absurd hlt (by omega)
    · obtain rfl : k = len := by omega
      clear hlt
      go_wp2_with fail
      refine (make7 n _ _ _ _ hn1 hn2).mono ?_
      rintro e w2 ⟨p, S, T, Z, q, m, rfl, hM, hge, hb⟩
      have HM := Lib.hid hM
      have HG := Lib.hid hge
      clear hM hge
      go_wp2_with fail
      go_loopw [61, 15] (fun v61 _ wr => ∃ j : Nat, j ≤ k ∧ v61 = .int .i64 j ∧ Made wr p S T Z q m n false true true (cAt z j) ∧ Below w.heap.size w wr) (fun v61 _ _ => k - (intOf v61).toNat)
      case atStart => exact ⟨0, Nat.zero_le _, rfl, HM.out, hb⟩
      case round =>
        obtain ⟨j, hj, rfl, hMj, hbj⟩ := hrel
        have HMJ := Lib.hid hMj
        clear hMj HM hb
        by_cases hlt : j < k
        · exact absurd hlt (by omega)
        · obtain rfl : j = k := by omega
          clear hlt
          have hsz := hbj.size
          go_wp2_with (at_make; refine wpList_make_full _ rfl _ _ 22 rfl w.heap.size 24 j0 _ 1 Try.underlying22 gi gz0 gz1 .i64 .i64 _ _ n rfl rfl rfl rfl (by rw [gz2]; omega) (by unfold maxLen; omega) (by omega) ?_)
          intro w3 hown hgrow
          obtain ⟨wo, rfl⟩ : ∃ wo : World, wo = wr := ⟨_, rfl⟩
          have hb3 : Below wo.heap.size wo w3 := Below.grown (Below.refl _ _) hgrow (Nat.le_refl _) (fun k hk => by cases hk)
          have hR : Cells w3 wo.heap.size 24 n (fun i => .int .u32 (cAt z 0 i)) := made1 hown
          have HR := Lib.hid hR
          clear hown hgrow gi gz0 gz1 gz2 j0 hR
          go_wp2_with fail
          go_loopw [73, 18] (fun v73 _ wr => ∃ i : Nat, i ≤ j ∧ v73 = .int .i64 i ∧ Cells wr wo.heap.size 24 n (fun o => .int .u32 (cAt z i o)) ∧ Below wo.heap.size wo wr) (fun v73 _ _ => j - (intOf v73).toNat)
          case atStart => exact ⟨0, Nat.zero_le _, rfl, HR.out, hb3⟩
          case round =>
            obtain ⟨i, hi, rfl, hCi, hbi⟩ := hrel
            have HCI := Lib.hid hCi
            clear hCi HR hb3
            by_cases hlt : i < j
            · exact absurd hlt (by omega)
            · obtain rfl : i = j := by omega
              clear hlt
              go_wp2_with fail
              go_loopw [20, 19] (fun v20 v19 wr => ∃ l : Nat, l ≤ n ∧ v20 = .int .i64 l ∧ v19 = .int .i64 ((if true && !false then dist (cAt z i) l else 0 : Nat) : Int) ∧ Cells wr wo.heap.size 24 n (fun o => .int .u32 (cAt z i o)) ∧ Below wo.heap.size wo wr) (fun v20 _ _ => n - (intOf v20).toNat)
              case atStart => exact ⟨0, Nat.zero_le _, rfl, rfl, HCI.out, hbi⟩
              case round =>
                obtain ⟨l, hl', rfl, rfl, hCl, hbl⟩ := hrel
                have HCL := Lib.hid hCl
                have HML := Lib.hid (HMJ.out.later (fun a ha => hbl.block a ha))
                clear hCl HCI hbi
                by_cases hlt : l < n
                · obtain ⟨cc, hcc⟩ : ∃ cc : Nat, cAt z i l = cc := ⟨_, rfl⟩
                  have q1 : wr.cell? ⟨wo.heap.size, l, none⟩ = some (.int .u32 (cc : Int)) := HCL.out.cellv hlt (by rw [hcc])
                  have hcl : cc ≤ 65536 := by have := cAt_le z i l; omega
                  have hd : dist (cAt z i) (l + 1) = dist (cAt z i) l + if cc = 0 then 0 else 1 := by rw [dist, hcc]
                  have hdl := dist_le (cAt z i) l
                  have u9 := use9 p S T Z q m n l _ _ _ _ wr hlt (by omega) HML.out
                  have u10 := ts10 p S T Z q m n l _ _ _ _ wr hlt (by omega) HML.out
                  have u11 := part11 p S T Z q m n l _ _ _ _ wr hlt (by omega) HML.out
                  unfold inPart at u11
                  rw [hcc] at u9 u10 u11
                  have HD := Lib.hid hd
                  have hzz := HCL.out.lt
                  clear hd hcc
                  by_cases h0 : cc = 0
                  · subst h0
                    simp at u9 u10 u11
                    have U9 := Lib.hid u9
                    have U10 := Lib.hid u10
                    have U11 := Lib.hid u11
                    clear u9 u10 u11
                    go_wp2_with fail
                    refine U9.out.mono ?_
                    rintro e w4 ⟨rfl, rfl⟩
                    go_wp2_with fail
                    refine U10.out.mono ?_
                    rintro e w4 ⟨rfl, rfl⟩
                    go_wp2_with fail
                    refine U11.out.mono ?_
                    rintro e w5 ⟨rfl, b5⟩
                    have q5 := later q1 b5
                    have C5 := HCL.out.below b5 hzz
                    have B5 := hbl.trans (b5.mono hbl.size)
                    clear b5
                    have C5' := Lib.hid C5
                    clear C5
                    go_wp2_with fail
                    go_roundw
                    case rel => exact ⟨l + 1, by omega, by go_num, by (simp [HD.out]), C5'.out, B5⟩
                    case measure => simp [intOf]; omega
                  · have hcb : (cc == 0) = false := by simpa using h0
                    have hpos : 0 < cc := by omega
                    rw [hcb] at u11
                    simp at u9 u10 u11
                    have U9 := Lib.hid u9
                    have U10 := Lib.hid u10
                    have U11 := Lib.hid u11
                    have H0 := Lib.hid h0
                    clear u9 u10 u11 hcb h0
                    go_wp2_with fail
                    refine U9.out.mono ?_
                    rintro e w4 ⟨rfl, rfl⟩
                    go_wp2_with fail
                    refine U10.out.mono ?_
                    rintro e w4 ⟨rfl, rfl⟩
                    go_wp2_with fail
                    refine U11.out.mono ?_
                    rintro e w5 ⟨rfl, b5⟩
                    have q5 := later q1 b5
                    have C5 := HCL.out.below b5 hzz
                    have B5 := hbl.trans (b5.mono hbl.size)
                    clear b5
                    have C5' := Lib.hid C5
                    clear C5
                    go_wp2_with fail
                    go_roundw
                    case rel => exact ⟨l + 1, by omega, by go_num, by (simp [HD.out, H0.out]), C5'.out, B5⟩
                    case measure => simp [intOf]; omega
                · obtain rfl : l = n := by omega
                  clear hlt
                  go_wp2_with fail
                  refine (len12 p S T Z q m l _ _ _ _ _ HML.out).mono ?_
                  rintro e w4 ⟨rfl, rfl⟩
                  go_wp2_with fail
                  go_ret
                  exact ⟨by simp, hbj.trans (hbl.mono hsz)⟩

theorem nil_ftf (n len cap : Nat) (z : List Int) (w : World) (hn1 : 1 ≤ n) (hn2 : n ≤ 4096) (hlen : len ≤ 0) (hl : len ≤ 65536) :
    Calls Try.prog 3 #[.int .i64 n, .slice none len cap, .bool false, .bool true, .bool false] w fun e w' => e = .returned (.bool true) ∧ Below w.heap.size w w' := by
  have hm1 := info_parts info24
  obtain ⟨j0, gi, gz0, gz1, gz2⟩ := hm1
  go_enter Try.func3, Try.ntmps3
  go_wp2_with fail
  refine (zz6 _ _ _ _ _ _ _ _ (by omega)).mono ?_
  rintro e w1 ⟨rfl, rfl⟩
  have hd1 : decide (len ≤ 1048576) = true := by simp; omega
  go_wp2_with fail
  go_loop [45, 12] (fun v45 _ => ∃ k : Nat, k ≤ len ∧ v45 = .int .i64 k ∧ ∀ i, i < k → z.getD i 0 < n) (fun v45 _ => len - (intOf v45).toNat)
  case atStart => exact ⟨0, Nat.zero_le _, rfl, fun i hi => by omega⟩
  case round =>
    obtain ⟨k, hk, rfl, hlo⟩ := hrel
    have HL := Lib.hid hlo
    clear hlo
    by_cases hlt : k < len
    · exact absurd hlt (by omega)
    · obtain rfl : k = len := by omega
      clear hlt
      go_wp2_with fail
      refine (make7 n _ _ _ _ hn1 hn2).mono ?_
      rintro e w2 ⟨p, S, T, Z, q, m, rfl, hM, hge, hb⟩
      have HM := Lib.hid hM
      have HG := Lib.hid hge
      clear hM hge
      go_wp2_with fail
      go_loopw [61, 15] (fun v61 _ wr => ∃ j : Nat, j ≤ k ∧ v61 = .int .i64 j ∧ Made wr p S T Z q m n false true false (cAt z j) ∧ Below w.heap.size w wr) (fun v61 _ _ => k - (intOf v61).toNat)
      case atStart => exact ⟨0, Nat.zero_le _, rfl, HM.out, hb⟩
      case round =>
        obtain ⟨j, hj, rfl, hMj, hbj⟩ := hrel
        have HMJ := Lib.hid hMj
        clear hMj HM hb
        by_cases hlt : j < k
        · exact absurd hlt (by omega)
        · obtain rfl : j = k := by omega
          clear hlt
          have hsz := hbj.size
          go_wp2_with (at_make; refine wpList_make_full _ rfl _ _ 22 rfl w.heap.size 24 j0 _ 1 Try.underlying22 gi gz0 gz1 .i64 .i64 _ _ n rfl rfl rfl rfl (by rw [gz2]; omega) (by unfold maxLen; omega) (by omega) ?_)
          intro w3 hown hgrow
          obtain ⟨wo, rfl⟩ : ∃ wo : World, wo = wr := ⟨_, rfl⟩
          have hb3 : Below wo.heap.size wo w3 := Below.grown (Below.refl _ _) hgrow (Nat.le_refl _) (fun k hk => by cases hk)
          have hR : Cells w3 wo.heap.size 24 n (fun i => .int .u32 (cAt z 0 i)) := made1 hown
          have HR := Lib.hid hR
          clear hown hgrow gi gz0 gz1 gz2 j0 hR
          go_wp2_with fail
          go_loopw [73, 18] (fun v73 _ wr => ∃ i : Nat, i ≤ j ∧ v73 = .int .i64 i ∧ Cells wr wo.heap.size 24 n (fun o => .int .u32 (cAt z i o)) ∧ Below wo.heap.size wo wr) (fun v73 _ _ => j - (intOf v73).toNat)
          case atStart => exact ⟨0, Nat.zero_le _, rfl, HR.out, hb3⟩
          case round =>
            obtain ⟨i, hi, rfl, hCi, hbi⟩ := hrel
            have HCI := Lib.hid hCi
            clear hCi HR hb3
            by_cases hlt : i < j
            · exact absurd hlt (by omega)
            · obtain rfl : i = j := by omega
              clear hlt
              go_wp2_with fail
              go_loopw [20, 19] (fun v20 v19 wr => ∃ l : Nat, l ≤ n ∧ v20 = .int .i64 l ∧ v19 = .int .i64 ((if false && !false then dist (cAt z i) l else 0 : Nat) : Int) ∧ Cells wr wo.heap.size 24 n (fun o => .int .u32 (cAt z i o)) ∧ Below wo.heap.size wo wr) (fun v20 _ _ => n - (intOf v20).toNat)
              case atStart => exact ⟨0, Nat.zero_le _, rfl, rfl, HCI.out, hbi⟩
              case round =>
                obtain ⟨l, hl', rfl, rfl, hCl, hbl⟩ := hrel
                have HCL := Lib.hid hCl
                have HML := Lib.hid (HMJ.out.later (fun a ha => hbl.block a ha))
                clear hCl HCI hbi
                by_cases hlt : l < n
                · obtain ⟨cc, hcc⟩ : ∃ cc : Nat, cAt z i l = cc := ⟨_, rfl⟩
                  have q1 : wr.cell? ⟨wo.heap.size, l, none⟩ = some (.int .u32 (cc : Int)) := HCL.out.cellv hlt (by rw [hcc])
                  have hcl : cc ≤ 65536 := by have := cAt_le z i l; omega
                  have hd : dist (cAt z i) (l + 1) = dist (cAt z i) l + if cc = 0 then 0 else 1 := by rw [dist, hcc]
                  have hdl := dist_le (cAt z i) l
                  have u9 := use9 p S T Z q m n l _ _ _ _ wr hlt (by omega) HML.out
                  have u10 := ts10 p S T Z q m n l _ _ _ _ wr hlt (by omega) HML.out
                  have u11 := part11 p S T Z q m n l _ _ _ _ wr hlt (by omega) HML.out
                  unfold inPart at u11
                  rw [hcc] at u9 u10 u11
                  have HD := Lib.hid hd
                  have hzz := HCL.out.lt
                  clear hd hcc
                  by_cases h0 : cc = 0
                  · subst h0
                    simp at u9 u10 u11
                    have U9 := Lib.hid u9
                    have U10 := Lib.hid u10
                    have U11 := Lib.hid u11
                    clear u9 u10 u11
                    go_wp2_with fail
                    refine U9.out.mono ?_
                    rintro e w4 ⟨rfl, rfl⟩
                    go_wp2_with fail
                    refine U10.out.mono ?_
                    rintro e w4 ⟨rfl, rfl⟩
                    go_wp2_with fail
                    refine U11.out.mono ?_
                    rintro e w5 ⟨rfl, b5⟩
                    have q5 := later q1 b5
                    have C5 := HCL.out.below b5 hzz
                    have B5 := hbl.trans (b5.mono hbl.size)
                    clear b5
                    have C5' := Lib.hid C5
                    clear C5
                    go_wp2_with fail
                    go_roundw
                    case rel => exact ⟨l + 1, by omega, by go_num, by (simp [HD.out]), C5'.out, B5⟩
                    case measure => simp [intOf]; omega
                  · have hcb : (cc == 0) = false := by simpa using h0
                    have hpos : 0 < cc := by omega
                    rw [hcb] at u11
                    simp at u9 u10 u11
                    have U9 := Lib.hid u9
                    have U10 := Lib.hid u10
                    have U11 := Lib.hid u11
                    have H0 := Lib.hid h0
                    clear u9 u10 u11 hcb h0
                    go_wp2_with fail
                    refine U9.out.mono ?_
                    rintro e w4 ⟨rfl, rfl⟩
                    go_wp2_with fail
                    refine U10.out.mono ?_
                    rintro e w4 ⟨rfl, rfl⟩
                    go_wp2_with fail
                    refine U11.out.mono ?_
                    rintro e w5 ⟨rfl, b5⟩
                    have q5 := later q1 b5
                    have C5 := HCL.out.below b5 hzz
                    have B5 := hbl.trans (b5.mono hbl.size)
                    clear b5
                    have C5' := Lib.hid C5
                    clear C5
                    go_wp2_with fail
                    go_roundw
                    case rel => exact ⟨l + 1, by omega, by go_num, by (simp [HD.out, H0.out]), C5'.out, B5⟩
                    case measure => simp [intOf]; omega
                · obtain rfl : l = n := by omega
                  clear hlt
                  go_wp2_with fail
                  refine (len12 p S T Z q m l _ _ _ _ _ HML.out).mono ?_
                  rintro e w4 ⟨rfl, rfl⟩
                  go_wp2_with fail
                  go_ret
                  exact ⟨by simp, hbj.trans (hbl.mono hsz)⟩

theorem nil_fft (n len cap : Nat) (z : List Int) (w : World) (hn1 : 1 ≤ n) (hn2 : n ≤ 4096) (hlen : len ≤ 0) (hl : len ≤ 65536) :
    Calls Try.prog 3 #[.int .i64 n, .slice none len cap, .bool false, .bool false, .bool true] w fun e w' => e = .returned (.bool true) ∧ Below w.heap.size w w' := by
  have hm1 := info_parts info24
  obtain ⟨j0, gi, gz0, gz1, gz2⟩ := hm1
  go_enter Try.func3, Try.ntmps3
  go_wp2_with fail
  refine (zz6 _ _ _ _ _ _ _ _ (by omega)).mono ?_
  rintro e w1 ⟨rfl, rfl⟩
  have hd1 : decide (len ≤ 1048576) = true := by simp; omega
  go_wp2_with fail
  go_loop [45, 12] (fun v45 _ => ∃ k : Nat, k ≤ len ∧ v45 = .int .i64 k ∧ ∀ i, i < k → z.getD i 0 < n) (fun v45 _ => len - (intOf v45).toNat)
  case atStart => exact ⟨0, Nat.zero_le _, rfl, fun i hi => by omega⟩
  case round =>
    obtain ⟨k, hk, rfl, hlo⟩ := hrel
    have HL := Lib.hid hlo
    clear hlo
    by_cases hlt : k < len
    · exact absurd hlt (by omega)
    · obtain rfl : k = len := by omega
      clear hlt
      go_wp2_with fail
      refine (make7 n _ _ _ _ hn1 hn2).mono ?_
      rintro e w2 ⟨p, S, T, Z, q, m, rfl, hM, hge, hb⟩
      have HM := Lib.hid hM
      have HG := Lib.hid hge
      clear hM hge
      go_wp2_with fail
      go_loopw [61, 15] (fun v61 _ wr => ∃ j : Nat, j ≤ k ∧ v61 = .int .i64 j ∧ Made wr p S T Z q m n false false true (cAt z j) ∧ Below w.heap.size w wr) (fun v61 _ _ => k - (intOf v61).toNat)
      case atStart => exact ⟨0, Nat.zero_le _, rfl, HM.out, hb⟩
      case round =>
        obtain ⟨j, hj, rfl, hMj, hbj⟩ := hrel
        have HMJ := Lib.hid hMj
        clear hMj HM hb
        by_cases hlt : j < k
        · exact absurd hlt (by omega)
        · obtain rfl : j = k := by omega
          clear hlt
          have hsz := hbj.size
          go_wp2_with (at_make; refine wpList_make_full _ rfl _ _ 22 rfl w.heap.size 24 j0 _ 1 Try.underlying22 gi gz0 gz1 .i64 .i64 _ _ n rfl rfl rfl rfl (by rw [gz2]; omega) (by unfold maxLen; omega) (by omega) ?_)
          intro w3 hown hgrow
          obtain ⟨wo, rfl⟩ : ∃ wo : World, wo = wr := ⟨_, rfl⟩
          have hb3 : Below wo.heap.size wo w3 := Below.grown (Below.refl _ _) hgrow (Nat.le_refl _) (fun k hk => by cases hk)
          have hR : Cells w3 wo.heap.size 24 n (fun i => .int .u32 (cAt z 0 i)) := made1 hown
          have HR := Lib.hid hR
          clear hown hgrow gi gz0 gz1 gz2 j0 hR
          go_wp2_with fail
          go_loopw [73, 18] (fun v73 _ wr => ∃ i : Nat, i ≤ j ∧ v73 = .int .i64 i ∧ Cells wr wo.heap.size 24 n (fun o => .int .u32 (cAt z i o)) ∧ Below wo.heap.size wo wr) (fun v73 _ _ => j - (intOf v73).toNat)
          case atStart => exact ⟨0, Nat.zero_le _, rfl, HR.out, hb3⟩
          case round =>
            obtain ⟨i, hi, rfl, hCi, hbi⟩ := hrel
            have HCI := Lib.hid hCi
            clear hCi HR hb3
            by_cases hlt : i < j
            · exact absurd hlt (by omega)
            · obtain rfl : i = j := by omega
              clear hlt
              go_wp2_with fail
              go_loopw [20, 19] (fun v20 v19 wr => ∃ l : Nat, l ≤ n ∧ v20 = .int .i64 l ∧ v19 = .int .i64 ((if true && !false then dist (cAt z i) l else 0 : Nat) : Int) ∧ Cells wr wo.heap.size 24 n (fun o => .int .u32 (cAt z i o)) ∧ Below wo.heap.size wo wr) (fun v20 _ _ => n - (intOf v20).toNat)
              case atStart => exact ⟨0, Nat.zero_le _, rfl, rfl, HCI.out, hbi⟩
              case round =>
                obtain ⟨l, hl', rfl, rfl, hCl, hbl⟩ := hrel
                have HCL := Lib.hid hCl
                have HML := Lib.hid (HMJ.out.later (fun a ha => hbl.block a ha))
                clear hCl HCI hbi
                by_cases hlt : l < n
                · obtain ⟨cc, hcc⟩ : ∃ cc : Nat, cAt z i l = cc := ⟨_, rfl⟩
                  have q1 : wr.cell? ⟨wo.heap.size, l, none⟩ = some (.int .u32 (cc : Int)) := HCL.out.cellv hlt (by rw [hcc])
                  have hcl : cc ≤ 65536 := by have := cAt_le z i l; omega
                  have hd : dist (cAt z i) (l + 1) = dist (cAt z i) l + if cc = 0 then 0 else 1 := by rw [dist, hcc]
                  have hdl := dist_le (cAt z i) l
                  have u9 := use9 p S T Z q m n l _ _ _ _ wr hlt (by omega) HML.out
                  have u10 := ts10 p S T Z q m n l _ _ _ _ wr hlt (by omega) HML.out
                  have u11 := part11 p S T Z q m n l _ _ _ _ wr hlt (by omega) HML.out
                  unfold inPart at u11
                  rw [hcc] at u9 u10 u11
                  have HD := Lib.hid hd
                  have hzz := HCL.out.lt
                  clear hd hcc
                  by_cases h0 : cc = 0
                  · subst h0
                    simp at u9 u10 u11
                    have U9 := Lib.hid u9
                    have U10 := Lib.hid u10
                    have U11 := Lib.hid u11
                    clear u9 u10 u11
                    go_wp2_with fail
                    refine U9.out.mono ?_
                    rintro e w4 ⟨rfl, rfl⟩
                    go_wp2_with fail
                    refine U10.out.mono ?_
                    rintro e w4 ⟨rfl, rfl⟩
                    go_wp2_with fail
                    refine U11.out.mono ?_
                    rintro e w5 ⟨rfl, b5⟩
                    have q5 := later q1 b5
                    have C5 := HCL.out.below b5 hzz
                    have B5 := hbl.trans (b5.mono hbl.size)
                    clear b5
                    have C5' := Lib.hid C5
                    clear C5
                    go_wp2_with fail
                    go_roundw
                    case rel => exact ⟨l + 1, by omega, by go_num, by (simp [HD.out]), C5'.out, B5⟩
                    case measure => simp [intOf]; omega
                  · have hcb : (cc == 0) = false := by simpa using h0
                    have hpos : 0 < cc := by omega
                    rw [hcb] at u11
                    simp at u9 u10 u11
                    have U9 := Lib.hid u9
                    have U10 := Lib.hid u10
                    have U11 := Lib.hid u11
                    have H0 := Lib.hid h0
                    clear u9 u10 u11 hcb h0
                    go_wp2_with fail
                    refine U9.out.mono ?_
                    rintro e w4 ⟨rfl, rfl⟩
                    go_wp2_with fail
                    refine U10.out.mono ?_
                    rintro e w4 ⟨rfl, rfl⟩
                    go_wp2_with fail
                    refine U11.out.mono ?_
                    rintro e w5 ⟨rfl, b5⟩
                    have q5 := later q1 b5
                    have C5 := HCL.out.below b5 hzz
                    have B5 := hbl.trans (b5.mono hbl.size)
                    clear b5
                    have C5' := Lib.hid C5
                    clear C5
                    go_wp2_with fail
                    go_roundw
                    case rel => exact ⟨l + 1, by omega, by go_num, by (simp [HD.out, H0.out]), C5'.out, B5⟩
                    case measure => simp [intOf]; omega
                · obtain rfl : l = n := by omega
                  clear hlt
                  go_wp2_with fail
                  refine (len12 p S T Z q m l _ _ _ _ _ HML.out).mono ?_
                  rintro e w4 ⟨rfl, rfl⟩
                  go_wp2_with fail
                  go_ret
                  exact ⟨by simp, hbj.trans (hbl.mono hsz)⟩

theorem nil_fff (n len cap : Nat) (z : List Int) (w : World) (hn1 : 1 ≤ n) (hn2 : n ≤ 4096) (hlen : len ≤ 0) (hl : len ≤ 65536) :
    Calls Try.prog 3 #[.int .i64 n, .slice none len cap, .bool false, .bool false, .bool false] w fun e w' => e = .returned (.bool true) ∧ Below w.heap.size w w' := by
  have hm1 := info_parts info24
  obtain ⟨j0, gi, gz0, gz1, gz2⟩ := hm1
  go_enter Try.func3, Try.ntmps3
  go_wp2_with fail
  refine (zz6 _ _ _ _ _ _ _ _ (by omega)).mono ?_
  rintro e w1 ⟨rfl, rfl⟩
  have hd1 : decide (len ≤ 1048576) = true := by simp; omega
  go_wp2_with fail
  go_loop [45, 12] (fun v45 _ => ∃ k : Nat, k ≤ len ∧ v45 = .int .i64 k ∧ ∀ i, i < k → z.getD i 0 < n) (fun v45 _ => len - (intOf v45).toNat)
  case atStart => exact ⟨0, Nat.zero_le _, rfl, fun i hi => by omega⟩
  case round =>
    obtain ⟨k, hk, rfl, hlo⟩ := hrel
    have HL := Lib.hid hlo
    clear hlo
    by_cases hlt : k < len
    · exact absurd hlt (by omega)
    · obtain rfl : k = len := by omega
      clear hlt
      go_wp2_with fail
      refine (make7 n _ _ _ _ hn1 hn2).mono ?_
      rintro e w2 ⟨p, S, T, Z, q, m, rfl, hM, hge, hb⟩
      have HM := Lib.hid hM
      have HG := Lib.hid hge
      clear hM hge
      go_wp2_with fail
      go_loopw [61, 15] (fun v61 _ wr => ∃ j : Nat, j ≤ k ∧ v61 = .int .i64 j ∧ Made wr p S T Z q m n false false false (cAt z j) ∧ Below w.heap.size w wr) (fun v61 _ _ => k - (intOf v61).toNat)
      case atStart => exact ⟨0, Nat.zero_le _, rfl, HM.out, hb⟩
      case round =>
        obtain ⟨j, hj, rfl, hMj, hbj⟩ := hrel
        have HMJ := Lib.hid hMj
        clear hMj HM hb
        by_cases hlt : j < k
        · exact absurd hlt (by omega)
        · obtain rfl : j = k := by omega
          clear hlt
          have hsz := hbj.size
          go_wp2_with (at_make; refine wpList_make_full _ rfl _ _ 22 rfl w.heap.size 24 j0 _ 1 Try.underlying22 gi gz0 gz1 .i64 .i64 _ _ n rfl rfl rfl rfl (by rw [gz2]; omega) (by unfold maxLen; omega) (by omega) ?_)
          intro w3 hown hgrow
          obtain ⟨wo, rfl⟩ : ∃ wo : World, wo = wr := ⟨_, rfl⟩
          have hb3 : Below wo.heap.size wo w3 := Below.grown (Below.refl _ _) hgrow (Nat.le_refl _) (fun k hk => by cases hk)
          have hR : Cells w3 wo.heap.size 24 n (fun i => .int .u32 (cAt z 0 i)) := made1 hown
          have HR := Lib.hid hR
          clear hown hgrow gi gz0 gz1 gz2 j0 hR
          go_wp2_with fail
          go_loopw [73, 18] (fun v73 _ wr => ∃ i : Nat, i ≤ j ∧ v73 = .int .i64 i ∧ Cells wr wo.heap.size 24 n (fun o => .int .u32 (cAt z i o)) ∧ Below wo.heap.size wo wr) (fun v73 _ _ => j - (intOf v73).toNat)
          case atStart => exact ⟨0, Nat.zero_le _, rfl, HR.out, hb3⟩
          case round =>
            obtain ⟨i, hi, rfl, hCi, hbi⟩ := hrel
            have HCI := Lib.hid hCi
            clear hCi HR hb3
            by_cases hlt : i < j
            · exact absurd hlt (by omega)
            · obtain rfl : i = j := by omega
              clear hlt
              go_wp2_with fail
              go_loopw [20, 19] (fun v20 v19 wr => ∃ l : Nat, l ≤ n ∧ v20 = .int .i64 l ∧ v19 = .int .i64 ((if false && !false then dist (cAt z i) l else 0 : Nat) : Int) ∧ Cells wr wo.heap.size 24 n (fun o => .int .u32 (cAt z i o)) ∧ Below wo.heap.size wo wr) (fun v20 _ _ => n - (intOf v20).toNat)
              case atStart => exact ⟨0, Nat.zero_le _, rfl, rfl, HCI.out, hbi⟩
              case round =>
                obtain ⟨l, hl', rfl, rfl, hCl, hbl⟩ := hrel
                have HCL := Lib.hid hCl
                have HML := Lib.hid (HMJ.out.later (fun a ha => hbl.block a ha))
                clear hCl HCI hbi
                by_cases hlt : l < n
                · obtain ⟨cc, hcc⟩ : ∃ cc : Nat, cAt z i l = cc := ⟨_, rfl⟩
                  have q1 : wr.cell? ⟨wo.heap.size, l, none⟩ = some (.int .u32 (cc : Int)) := HCL.out.cellv hlt (by rw [hcc])
                  have hcl : cc ≤ 65536 := by have := cAt_le z i l; omega
                  have hd : dist (cAt z i) (l + 1) = dist (cAt z i) l + if cc = 0 then 0 else 1 := by rw [dist, hcc]
                  have hdl := dist_le (cAt z i) l
                  have u9 := use9 p S T Z q m n l _ _ _ _ wr hlt (by omega) HML.out
                  have u10 := ts10 p S T Z q m n l _ _ _ _ wr hlt (by omega) HML.out
                  have u11 := part11 p S T Z q m n l _ _ _ _ wr hlt (by omega) HML.out
                  unfold inPart at u11
                  rw [hcc] at u9 u10 u11
                  have HD := Lib.hid hd
                  have hzz := HCL.out.lt
                  clear hd hcc
                  by_cases h0 : cc = 0
                  · subst h0
                    simp at u9 u10 u11
                    have U9 := Lib.hid u9
                    have U10 := Lib.hid u10
                    have U11 := Lib.hid u11
                    clear u9 u10 u11
                    go_wp2_with fail
                    refine U9.out.mono ?_
                    rintro e w4 ⟨rfl, rfl⟩
                    go_wp2_with fail
                    refine U10.out.mono ?_
                    rintro e w4 ⟨rfl, rfl⟩
                    go_wp2_with fail
                    refine U11.out.mono ?_
                    rintro e w5 ⟨rfl, b5⟩
                    have q5 := later q1 b5
                    have C5 := HCL.out.below b5 hzz
                    have B5 := hbl.trans (b5.mono hbl.size)
                    clear b5
                    have C5' := Lib.hid C5
                    clear C5
                    go_wp2_with fail
                    go_roundw
                    case rel => exact ⟨l + 1, by omega, by go_num, by (simp [HD.out]), C5'.out, B5⟩
                    case measure => simp [intOf]; omega
                  · have hcb : (cc == 0) = false := by simpa using h0
                    have hpos : 0 < cc := by omega
                    rw [hcb] at u11
                    simp at u9 u10 u11
                    have U9 := Lib.hid u9
                    have U10 := Lib.hid u10
                    have U11 := Lib.hid u11
                    have H0 := Lib.hid h0
                    clear u9 u10 u11 hcb h0
                    go_wp2_with fail
                    refine U9.out.mono ?_
                    rintro e w4 ⟨rfl, rfl⟩
                    go_wp2_with fail
                    refine U10.out.mono ?_
                    rintro e w4 ⟨rfl, rfl⟩
                    go_wp2_with fail
                    refine U11.out.mono ?_
                    rintro e w5 ⟨rfl, b5⟩
                    have q5 := later q1 b5
                    have C5 := HCL.out.below b5 hzz
                    have B5 := hbl.trans (b5.mono hbl.size)
                    clear b5
                    have C5' := Lib.hid C5
                    clear C5
                    go_wp2_with fail
                    go_roundw
                    case rel => exact ⟨l + 1, by omega, by go_num, by (simp [HD.out, H0.out]), C5'.out, B5⟩
                    case measure => simp [intOf]; omega
                · obtain rfl : l = n := by omega
                  clear hlt
                  go_wp2_with fail
                  refine (len12 p S T Z q m l _ _ _ _ _ HML.out).mono ?_
                  rintro e w4 ⟨rfl, rfl⟩
                  go_wp2_with fail
                  go_ret
                  exact ⟨by simp, hbj.trans (hbl.mono hsz)⟩

theorem nil_ttt (n len cap : Nat) (z : List Int) (w : World) (hn1 : 1 ≤ n) (hn2 : n ≤ 4096) (hlen : len ≤ 0) (hl : len ≤ 65536) :
    Calls Try.prog 3 #[.int .i64 n, .slice none len cap, .bool true, .bool true, .bool true] w fun e w' => e = .returned (.bool true) ∧ Below w.heap.size w w' := by
  have hm1 := info_parts info24
  obtain ⟨j0, gi, gz0, gz1, gz2⟩ := hm1
  go_enter Try.func3, Try.ntmps3
  go_wp2_with fail
  refine (zz6 _ _ _ _ _ _ _ _ (by omega)).mono ?_
  rintro e w1 ⟨rfl, rfl⟩
  have hd1 : decide (len ≤ 1048576) = true := by simp; omega
  go_wp2_with fail
  go_loop [45, 12] (fun v45 _ => ∃ k : Nat, k ≤ len ∧ v45 = .int .i64 k ∧ ∀ i, i < k → z.getD i 0 < n) (fun v45 _ => len - (intOf v45).toNat)
  case atStart => exact ⟨0, Nat.zero_le _, rfl, fun i hi => by omega⟩
  case round =>
    obtain ⟨k, hk, rfl, hlo⟩ := hrel
    have HL := Lib.hid hlo
    clear hlo
    by_cases hlt : k < len
    · exact absurd hlt (by omega)
    · obtain rfl : k = len := by omega
      clear hlt
      go_wp2_with fail
      refine (make7 n _ _ _ _ hn1 hn2).mono ?_
      rintro e w2 ⟨p, S, T, Z, q, m, rfl, hM, hge, hb⟩
      have HM := Lib.hid hM
      have HG := Lib.hid hge
      clear hM hge
      go_wp2_with fail
      go_loopw [61, 15] (fun v61 _ wr => ∃ j : Nat, j ≤ k ∧ v61 = .int .i64 j ∧ Made wr p S T Z q m n true true true (cAt z j) ∧ Below w.heap.size w wr) (fun v61 _ _ => k - (intOf v61).toNat)
      case atStart => exact ⟨0, Nat.zero_le _, rfl, HM.out, hb⟩
      case round =>
        obtain ⟨j, hj, rfl, hMj, hbj⟩ := hrel
        have HMJ := Lib.hid hMj
        clear hMj HM hb
        by_cases hlt : j < k
        · exact absurd hlt (by omega)
        · obtain rfl : j = k := by omega
          clear hlt
          have hsz := hbj.size
          go_wp2_with (at_make; refine wpList_make_full _ rfl _ _ 22 rfl w.heap.size 24 j0 _ 1 Try.underlying22 gi gz0 gz1 .i64 .i64 _ _ n rfl rfl rfl rfl (by rw [gz2]; omega) (by unfold maxLen; omega) (by omega) ?_)
          intro w3 hown hgrow
          obtain ⟨wo, rfl⟩ : ∃ wo : World, wo = wr := ⟨_, rfl⟩
          have hb3 : Below wo.heap.size wo w3 := Below.grown (Below.refl _ _) hgrow (Nat.le_refl _) (fun k hk => by cases hk)
          have hR : Cells w3 wo.heap.size 24 n (fun i => .int .u32 (cAt z 0 i)) := made1 hown
          have HR := Lib.hid hR
          clear hown hgrow gi gz0 gz1 gz2 j0 hR
          go_wp2_with fail
          go_loopw [73, 18] (fun v73 _ wr => ∃ i : Nat, i ≤ j ∧ v73 = .int .i64 i ∧ Cells wr wo.heap.size 24 n (fun o => .int .u32 (cAt z i o)) ∧ Below wo.heap.size wo wr) (fun v73 _ _ => j - (intOf v73).toNat)
          case atStart => exact ⟨0, Nat.zero_le _, rfl, HR.out, hb3⟩
          case round =>
            obtain ⟨i, hi, rfl, hCi, hbi⟩ := hrel
            have HCI := Lib.hid hCi
            clear hCi HR hb3
            by_cases hlt : i < j
            · exact absurd hlt (by omega)
            · obtain rfl : i = j := by omega
              clear hlt
              go_wp2_with fail
              go_loopw [20, 19] (fun v20 v19 wr => ∃ l : Nat, l ≤ n ∧ v20 = .int .i64 l ∧ v19 = .int .i64 ((if true && !true then dist (cAt z i) l else 0 : Nat) : Int) ∧ Cells wr wo.heap.size 24 n (fun o => .int .u32 (cAt z i o)) ∧ Below wo.heap.size wo wr) (fun v20 _ _ => n - (intOf v20).toNat)
              case atStart => exact ⟨0, Nat.zero_le _, rfl, rfl, HCI.out, hbi⟩
              case round =>
                obtain ⟨l, hl', rfl, rfl, hCl, hbl⟩ := hrel
                have HCL := Lib.hid hCl
                have HML := Lib.hid (HMJ.out.later (fun a ha => hbl.block a ha))
                clear hCl HCI hbi
                by_cases hlt : l < n
                · obtain ⟨cc, hcc⟩ : ∃ cc : Nat, cAt z i l = cc := ⟨_, rfl⟩
                  have q1 : wr.cell? ⟨wo.heap.size, l, none⟩ = some (.int .u32 (cc : Int)) := HCL.out.cellv hlt (by rw [hcc])
                  have hcl : cc ≤ 65536 := by have := cAt_le z i l; omega
                  have hd : dist (cAt z i) (l + 1) = dist (cAt z i) l + if cc = 0 then 0 else 1 := by rw [dist, hcc]
                  have hdl := dist_le (cAt z i) l
                  have u9 := use9 p S T Z q m n l _ _ _ _ wr hlt (by omega) HML.out
                  have u10 := ts10 p S T Z q m n l _ _ _ _ wr hlt (by omega) HML.out
                  have u11 := part11 p S T Z q m n l _ _ _ _ wr hlt (by omega) HML.out
                  unfold inPart at u11
                  rw [hcc] at u9 u10 u11
                  have HD := Lib.hid hd
                  have hzz := HCL.out.lt
                  clear hd hcc
                  by_cases h0 : cc = 0
                  · subst h0
                    simp at u9 u10 u11
                    have U9 := Lib.hid u9
                    have U10 := Lib.hid u10
                    have U11 := Lib.hid u11
                    clear u9 u10 u11
                    go_wp2_with fail
                    refine U9.out.mono ?_
                    rintro e w4 ⟨rfl, rfl⟩
                    go_wp2_with fail
                    refine U10.out.mono ?_
                    rintro e w4 ⟨rfl, rfl⟩
                    go_wp2_with fail
                    refine U11.out.mono ?_
                    rintro e w5 ⟨rfl, b5⟩
                    have q5 := later q1 b5
                    have C5 := HCL.out.below b5 hzz
                    have B5 := hbl.trans (b5.mono hbl.size)
                    clear b5
                    have C5' := Lib.hid C5
                    clear C5
                    go_wp2_with fail
                    go_roundw
                    case rel => exact ⟨l + 1, by omega, by go_num, by (simp [HD.out]), C5'.out, B5⟩
                    case measure => simp [intOf]; omega
                  · have hcb : (cc == 0) = false := by simpa using h0
                    have hpos : 0 < cc := by omega
                    rw [hcb] at u11
                    simp at u9 u10 u11
                    have U9 := Lib.hid u9
                    have U10 := Lib.hid u10
                    have U11 := Lib.hid u11
                    have H0 := Lib.hid h0
                    clear u9 u10 u11 hcb h0
                    go_wp2_with fail
                    refine U9.out.mono ?_
                    rintro e w4 ⟨rfl, rfl⟩
                    go_wp2_with fail
                    refine U10.out.mono ?_
                    rintro e w4 ⟨rfl, rfl⟩
                    go_wp2_with fail
                    refine U11.out.mono ?_
                    rintro e w5 ⟨rfl, b5⟩
                    have q5 := later q1 b5
                    have C5 := HCL.out.below b5 hzz
                    have B5 := hbl.trans (b5.mono hbl.size)
                    clear b5
                    have C5' := Lib.hid C5
                    clear C5
                    go_wp2_with fail
                    go_roundw
                    case rel => exact ⟨l + 1, by omega, by go_num, by (simp [HD.out, H0.out]), C5'.out, B5⟩
                    case measure => simp [intOf]; omega
                · obtain rfl : l = n := by omega
                  clear hlt
                  go_wp2_with fail
                  refine (len12 p S T Z q m l _ _ _ _ _ HML.out).mono ?_
                  rintro e w4 ⟨rfl, rfl⟩
                  go_wp2_with fail
                  go_ret
                  exact ⟨by simp, hbj.trans (hbl.mono hsz)⟩

theorem nil_ttf (n len cap : Nat) (z : List Int) (w : World) (hn1 : 1 ≤ n) (hn2 : n ≤ 4096) (hlen : len ≤ 0) (hl : len ≤ 65536) :
    Calls Try.prog 3 #[.int .i64 n, .slice none len cap, .bool true, .bool true, .bool false] w fun e w' => e = .returned (.bool true) ∧ Below w.heap.size w w' := by
  have hm1 := info_parts info24
  obtain ⟨j0, gi, gz0, gz1, gz2⟩ := hm1
  go_enter Try.func3, Try.ntmps3
  go_wp2_with fail
  refine (zz6 _ _ _ _ _ _ _ _ (by omega)).mono ?_
  rintro e w1 ⟨rfl, rfl⟩
  have hd1 : decide (len ≤ 1048576) = true := by simp; omega
  go_wp2_with fail
  go_loop [45, 12] (fun v45 _ => ∃ k : Nat, k ≤ len ∧ v45 = .int .i64 k ∧ ∀ i, i < k → z.getD i 0 < n) (fun v45 _ => len - (intOf v45).toNat)
  case atStart => exact ⟨0, Nat.zero_le _, rfl, fun i hi => by omega⟩
  case round =>
    obtain ⟨k, hk, rfl, hlo⟩ := hrel
    have HL := Lib.hid hlo
    clear hlo
    by_cases hlt : k < len
    · exact absurd hlt (by omega)
    · obtain rfl : k = len := by omega
      clear hlt
      go_wp2_with fail
      refine (make7 n _ _ _ _ hn1 hn2).mono ?_
      rintro e w2 ⟨p, S, T, Z, q, m, rfl, hM, hge, hb⟩
      have HM := Lib.hid hM
      have HG := Lib.hid hge
      clear hM hge
      go_wp2_with fail
      go_loopw [61, 15] (fun v61 _ wr => ∃ j : Nat, j ≤ k ∧ v61 = .int .i64 j ∧ Made wr p S T Z q m n true true false (cAt z j) ∧ Below w.heap.size w wr) (fun v61 _ _ => k - (intOf v61).toNat)
      case atStart => exact ⟨0, Nat.zero_le _, rfl, HM.out, hb⟩
      case round =>
        obtain ⟨j, hj, rfl, hMj, hbj⟩ := hrel
        have HMJ := Lib.hid hMj
        clear hMj HM hb
        by_cases hlt : j < k
        · exact absurd hlt (by omega)
        · obtain rfl : j = k := by omega
          clear hlt
          have hsz := hbj.size
          go_wp2_with (at_make; refine wpList_make_full _ rfl _ _ 22 rfl w.heap.size 24 j0 _ 1 Try.underlying22 gi gz0 gz1 .i64 .i64 _ _ n rfl rfl rfl rfl (by rw [gz2]; omega) (by unfold maxLen; omega) (by omega) ?_)
          intro w3 hown hgrow
          obtain ⟨wo, rfl⟩ : ∃ wo : World, wo = wr := ⟨_, rfl⟩
          have hb3 : Below wo.heap.size wo w3 := Below.grown (Below.refl _ _) hgrow (Nat.le_refl _) (fun k hk => by cases hk)
          have hR : Cells w3 wo.heap.size 24 n (fun i => .int .u32 (cAt z 0 i)) := made1 hown
          have HR := Lib.hid hR
          clear hown hgrow gi gz0 gz1 gz2 j0 hR
          go_wp2_with fail
          go_loopw [73, 18] (fun v73 _ wr => ∃ i : Nat, i ≤ j ∧ v73 = .int .i64 i ∧ Cells wr wo.heap.size 24 n (fun o => .int .u32 (cAt z i o)) ∧ Below wo.heap.size wo wr) (fun v73 _ _ => j - (intOf v73).toNat)
          case atStart => exact ⟨0, Nat.zero_le _, rfl, HR.out, hb3⟩
          case round =>
            obtain ⟨i, hi, rfl, hCi, hbi⟩ := hrel
            have HCI := Lib.hid hCi
            clear hCi HR hb3
            by_cases hlt : i < j
            · exact absurd hlt (by omega)
            · obtain rfl : i = j := by omega
              clear hlt
              go_wp2_with fail
              go_loopw [20, 19] (fun v20 v19 wr => ∃ l : Nat, l ≤ n ∧ v20 = .int .i64 l ∧ v19 = .int .i64 ((if false && !true then dist (cAt z i) l else 0 : Nat) : Int) ∧ Cells wr wo.heap.size 24 n (fun o => .int .u32 (cAt z i o)) ∧ Below wo.heap.size wo wr) (fun v20 _ _ => n - (intOf v20).toNat)
              case atStart => exact ⟨0, Nat.zero_le _, rfl, rfl, HCI.out, hbi⟩
              case round =>
                obtain ⟨l, hl', rfl, rfl, hCl, hbl⟩ := hrel
                have HCL := Lib.hid hCl
                have HML := Lib.hid (HMJ.out.later (fun a ha => hbl.block a ha))
                clear hCl HCI hbi
                by_cases hlt : l < n
                · obtain ⟨cc, hcc⟩ : ∃ cc : Nat, cAt z i l = cc := ⟨_, rfl⟩
                  have q1 : wr.cell? ⟨wo.heap.size, l, none⟩ = some (.int .u32 (cc : Int)) := HCL.out.cellv hlt (by rw [hcc])
                  have hcl : cc ≤ 65536 := by have := cAt_le z i l; omega
                  have hd : dist (cAt z i) (l + 1) = dist (cAt z i) l + if cc = 0 then 0 else 1 := by rw [dist, hcc]
                  have hdl := dist_le (cAt z i) l
                  have u9 := use9 p S T Z q m n l _ _ _ _ wr hlt (by omega) HML.out
                  have u10 := ts10 p S T Z q m n l _ _ _ _ wr hlt (by omega) HML.out
                  have u11 := part11 p S T Z q m n l _ _ _ _ wr hlt (by omega) HML.out
                  unfold inPart at u11
                  rw [hcc] at u9 u10 u11
                  have HD := Lib.hid hd
                  have hzz := HCL.out.lt
                  clear hd hcc
                  by_cases h0 : cc = 0
                  · subst h0
                    simp at u9 u10 u11
                    have U9 := Lib.hid u9
                    have U10 := Lib.hid u10
                    have U11 := Lib.hid u11
                    clear u9 u10 u11
                    go_wp2_with fail
                    refine U9.out.mono ?_
                    rintro e w4 ⟨rfl, rfl⟩
                    go_wp2_with fail
                    refine U10.out.mono ?_
                    rintro e w4 ⟨rfl, rfl⟩
                    go_wp2_with fail
                    refine U11.out.mono ?_
                    rintro e w5 ⟨rfl, b5⟩
                    have q5 := later q1 b5
                    have C5 := HCL.out.below b5 hzz
                    have B5 := hbl.trans (b5.mono hbl.size)
                    clear b5
                    have C5' := Lib.hid C5
                    clear C5
                    go_wp2_with fail
                    go_roundw
                    case rel => exact ⟨l + 1, by omega, by go_num, by (simp [HD.out]), C5'.out, B5⟩
                    case measure => simp [intOf]; omega
                  · have hcb : (cc == 0) = false := by simpa using h0
                    have hpos : 0 < cc := by omega
                    rw [hcb] at u11
                    simp at u9 u10 u11
                    have U9 := Lib.hid u9
                    have U10 := Lib.hid u10
                    have U11 := Lib.hid u11
                    have H0 := Lib.hid h0
                    clear u9 u10 u11 hcb h0
                    go_wp2_with fail
                    refine U9.out.mono ?_
                    rintro e w4 ⟨rfl, rfl⟩
                    go_wp2_with fail
                    refine U10.out.mono ?_
                    rintro e w4 ⟨rfl, rfl⟩
                    go_wp2_with fail
                    refine U11.out.mono ?_
                    rintro e w5 ⟨rfl, b5⟩
                    have q5 := later q1 b5
                    have C5 := HCL.out.below b5 hzz
                    have B5 := hbl.trans (b5.mono hbl.size)
                    clear b5
                    have C5' := Lib.hid C5
                    clear C5
                    go_wp2_with fail
                    go_roundw
                    case rel => exact ⟨l + 1, by omega, by go_num, by (simp [HD.out, H0.out]), C5'.out, B5⟩
                    case measure => simp [intOf]; omega
                · obtain rfl : l = n := by omega
                  clear hlt
                  go_wp2_with fail
                  refine (len12 p S T Z q m l _ _ _ _ _ HML.out).mono ?_
                  rintro e w4 ⟨rfl, rfl⟩
                  go_wp2_with fail
                  go_ret
                  exact ⟨by simp, hbj.trans (hbl.mono hsz)⟩

theorem nil_tft (n len cap : Nat) (z : List Int) (w : World) (hn1 : 1 ≤ n) (hn2 : n ≤ 4096) (hlen : len ≤ 0) (hl : len ≤ 65536) :
    Calls Try.prog 3 #[.int .i64 n, .slice none len cap, .bool true, .bool false, .bool true] w fun e w' => e = .returned (.bool true) ∧ Below w.heap.size w w' := by
  have hm1 := info_parts info24
  obtain ⟨j0, gi, gz0, gz1, gz2⟩ := hm1
  go_enter Try.func3, Try.ntmps3
  go_wp2_with fail
  refine (zz6 _ _ _ _ _ _ _ _ (by omega)).mono ?_
  rintro e w1 ⟨rfl, rfl⟩
  have hd1 : decide (len ≤ 1048576) = true := by simp; omega
  go_wp2_with fail
  go_loop [45, 12] (fun v45 _ => ∃ k : Nat, k ≤ len ∧ v45 = .int .i64 k ∧ ∀ i, i < k → z.getD i 0 < n) (fun v45 _ => len - (intOf v45).toNat)
  case atStart => exact ⟨0, Nat.zero_le _, rfl, fun i hi => by omega⟩
  case round =>
    obtain ⟨k, hk, rfl, hlo⟩ := hrel
    have HL := Lib.hid hlo
    clear hlo
    by_cases hlt : k < len
    · exact absurd hlt (by omega)
    · obtain rfl : k = len := by omega
      clear hlt
      go_wp2_with fail
      refine (make7 n _ _ _ _ hn1 hn2).mono ?_
      rintro e w2 ⟨p, S, T, Z, q, m, rfl, hM, hge, hb⟩
      have HM := Lib.hid hM
      have HG := Lib.hid hge
      clear hM hge
      go_wp2_with fail
      go_loopw [61, 15] (fun v61 _ wr => ∃ j : Nat, j ≤ k ∧ v61 = .int .i64 j ∧ Made wr p S T Z q m n true false true (cAt z j) ∧ Below w.heap.size w wr) (fun v61 _ _ => k - (intOf v61).toNat)
      case atStart => exact ⟨0, Nat.zero_le _, rfl, HM.out, hb⟩
      case round =>
        obtain ⟨j, hj, rfl, hMj, hbj⟩ := hrel
        have HMJ := Lib.hid hMj
        clear hMj HM hb
        by_cases hlt : j < k
        · exact absurd hlt (by omega)
        · obtain rfl : j = k := by omega
          clear hlt
          have hsz := hbj.size
          go_wp2_with (at_make; refine wpList_make_full _ rfl _ _ 22 rfl w.heap.size 24 j0 _ 1 Try.underlying22 gi gz0 gz1 .i64 .i64 _ _ n rfl rfl rfl rfl (by rw [gz2]; omega) (by unfold maxLen; omega) (by omega) ?_)
          intro w3 hown hgrow
          obtain ⟨wo, rfl⟩ : ∃ wo : World, wo = wr := ⟨_, rfl⟩
          have hb3 : Below wo.heap.size wo w3 := Below.grown (Below.refl _ _) hgrow (Nat.le_refl _) (fun k hk => by cases hk)
          have hR : Cells w3 wo.heap.size 24 n (fun i => .int .u32 (cAt z 0 i)) := made1 hown
          have HR := Lib.hid hR
          clear hown hgrow gi gz0 gz1 gz2 j0 hR
          go_wp2_with fail
          go_loopw [73, 18] (fun v73 _ wr => ∃ i : Nat, i ≤ j ∧ v73 = .int .i64 i ∧ Cells wr wo.heap.size 24 n (fun o => .int .u32 (cAt z i o)) ∧ Below wo.heap.size wo wr) (fun v73 _ _ => j - (intOf v73).toNat)
          case atStart => exact ⟨0, Nat.zero_le _, rfl, HR.out, hb3⟩
          case round =>
            obtain ⟨i, hi, rfl, hCi, hbi⟩ := hrel
            have HCI := Lib.hid hCi
            clear hCi HR hb3
            by_cases hlt : i < j
            · exact absurd hlt (by omega)
            · obtain rfl : i = j := by omega
              clear hlt
              go_wp2_with fail
              go_loopw [20, 19] (fun v20 v19 wr => ∃ l : Nat, l ≤ n ∧ v20 = .int .i64 l ∧ v19 = .int .i64 ((if true && !true then dist (cAt z i) l else 0 : Nat) : Int) ∧ Cells wr wo.heap.size 24 n (fun o => .int .u32 (cAt z i o)) ∧ Below wo.heap.size wo wr) (fun v20 _ _ => n - (intOf v20).toNat)
              case atStart => exact ⟨0, Nat.zero_le _, rfl, rfl, HCI.out, hbi⟩
              case round =>
                obtain ⟨l, hl', rfl, rfl, hCl, hbl⟩ := hrel
                have HCL := Lib.hid hCl
                have HML := Lib.hid (HMJ.out.later (fun a ha => hbl.block a ha))
                clear hCl HCI hbi
                by_cases hlt : l < n
                · obtain ⟨cc, hcc⟩ : ∃ cc : Nat, cAt z i l = cc := ⟨_, rfl⟩
                  have q1 : wr.cell? ⟨wo.heap.size, l, none⟩ = some (.int .u32 (cc : Int)) := HCL.out.cellv hlt (by rw [hcc])
                  have hcl : cc ≤ 65536 := by have := cAt_le z i l; omega
                  have hd : dist (cAt z i) (l + 1) = dist (cAt z i) l + if cc = 0 then 0 else 1 := by rw [dist, hcc]
                  have hdl := dist_le (cAt z i) l
                  have u9 := use9 p S T Z q m n l _ _ _ _ wr hlt (by omega) HML.out
                  have u10 := ts10 p S T Z q m n l _ _ _ _ wr hlt (by omega) HML.out
                  have u11 := part11 p S T Z q m n l _ _ _ _ wr hlt (by omega) HML.out
                  unfold inPart at u11
                  rw [hcc] at u9 u10 u11
                  have HD := Lib.hid hd
                  have hzz := HCL.out.lt
                  clear hd hcc
                  by_cases h0 : cc = 0
                  · subst h0
                    simp at u9 u10 u11
                    have U9 := Lib.hid u9
                    have U10 := Lib.hid u10
                    have U11 := Lib.hid u11
                    clear u9 u10 u11
                    go_wp2_with fail
                    refine U9.out.mono ?_
                    rintro e w4 ⟨rfl, rfl⟩
                    go_wp2_with fail
                    refine U10.out.mono ?_
                    rintro e w4 ⟨rfl, rfl⟩
                    go_wp2_with fail
                    refine U11.out.mono ?_
                    rintro e w5 ⟨rfl, b5⟩
                    have q5 := later q1 b5
                    have C5 := HCL.out.below b5 hzz
                    have B5 := hbl.trans (b5.mono hbl.size)
                    clear b5
                    have C5' := Lib.hid C5
                    clear C5
                    go_wp2_with fail
                    go_roundw
                    case rel => exact ⟨l + 1, by omega, by go_num, by (simp [HD.out]), C5'.out, B5⟩
                    case measure => simp [intOf]; omega
                  · have hcb : (cc == 0) = false := by simpa using h0
                    have hpos : 0 < cc := by omega
                    rw [hcb] at u11
                    simp at u9 u10 u11
                    have U9 := Lib.hid u9
                    have U10 := Lib.hid u10
                    have U11 := Lib.hid u11
                    have H0 := Lib.hid h0
                    clear u9 u10 u11 hcb h0
                    go_wp2_with fail
                    refine U9.out.mono ?_
                    rintro e w4 ⟨rfl, rfl⟩
                    go_wp2_with fail
                    refine U10.out.mono ?_
                    rintro e w4 ⟨rfl, rfl⟩
                    go_wp2_with fail
                    refine U11.out.mono ?_
                    rintro e w5 ⟨rfl, b5⟩
                    have q5 := later q1 b5
                    have C5 := HCL.out.below b5 hzz
                    have B5 := hbl.trans (b5.mono hbl.size)
                    clear b5
                    have C5' := Lib.hid C5
                    clear C5
                    go_wp2_with fail
                    go_roundw
                    case rel => exact ⟨l + 1, by omega, by go_num, by (simp [HD.out, H0.out]), C5'.out, B5⟩
                    case measure => simp [intOf]; omega
                · obtain rfl : l = n := by omega
                  clear hlt
                  go_wp2_with fail
                  refine (len12 p S T Z q m l _ _ _ _ _ HML.out).mono ?_
                  rintro e w4 ⟨rfl, rfl⟩
                  go_wp2_with fail
                  go_ret
                  exact ⟨by simp, hbj.trans (hbl.mono hsz)⟩

theorem nil_tff (n len cap : Nat) (z : List Int) (w : World) (hn1 : 1 ≤ n) (hn2 : n ≤ 4096) (hlen : len ≤ 0) (hl : len ≤ 65536) :
    Calls Try.prog 3 #[.int .i64 n, .slice none len cap, .bool true, .bool false, .bool false] w fun e w' => e = .returned (.bool true) ∧ Below w.heap.size w w' := by
  have hm1 := info_parts info24
  obtain ⟨j0, gi, gz0, gz1, gz2⟩ := hm1
  go_enter Try.func3, Try.ntmps3
  go_wp2_with fail
  refine (zz6 _ _ _ _ _ _ _ _ (by omega)).mono ?_
  rintro e w1 ⟨rfl, rfl⟩
  have hd1 : decide (len ≤ 1048576) = true := by simp; omega
  go_wp2_with fail
  go_loop [45, 12] (fun v45 _ => ∃ k : Nat, k ≤ len ∧ v45 = .int .i64 k ∧ ∀ i, i < k → z.getD i 0 < n) (fun v45 _ => len - (intOf v45).toNat)
  case atStart => exact ⟨0, Nat.zero_le _, rfl, fun i hi => by omega⟩
  case round =>
    obtain ⟨k, hk, rfl, hlo⟩ := hrel
    have HL := Lib.hid hlo
    clear hlo
    by_cases hlt : k < len
    · exact absurd hlt (by omega)
    · obtain rfl : k = len := by omega
      clear hlt
      go_wp2_with fail
      refine (make7 n _ _ _ _ hn1 hn2).mono ?_
      rintro e w2 ⟨p, S, T, Z, q, m, rfl, hM, hge, hb⟩
      have HM := Lib.hid hM
      have HG := Lib.hid hge
      clear hM hge
      go_wp2_with fail
      go_loopw [61, 15] (fun v61 _ wr => ∃ j : Nat, j ≤ k ∧ v61 = .int .i64 j ∧ Made wr p S T Z q m n true false false (cAt z j) ∧ Below w.heap.size w wr) (fun v61 _ _ => k - (intOf v61).toNat)
      case atStart => exact ⟨0, Nat.zero_le _, rfl, HM.out, hb⟩
      case round =>
        obtain ⟨j, hj, rfl, hMj, hbj⟩ := hrel
        have HMJ := Lib.hid hMj
        clear hMj HM hb
        by_cases hlt : j < k
        · exact absurd hlt (by omega)
        · obtain rfl : j = k := by omega
          clear hlt
          have hsz := hbj.size
          go_wp2_with (at_make; refine wpList_make_full _ rfl _ _ 22 rfl w.heap.size 24 j0 _ 1 Try.underlying22 gi gz0 gz1 .i64 .i64 _ _ n rfl rfl rfl rfl (by rw [gz2]; omega) (by unfold maxLen; omega) (by omega) ?_)
          intro w3 hown hgrow
          obtain ⟨wo, rfl⟩ : ∃ wo : World, wo = wr := ⟨_, rfl⟩
          have hb3 : Below wo.heap.size wo w3 := Below.grown (Below.refl _ _) hgrow (Nat.le_refl _) (fun k hk => by cases hk)
          have hR : Cells w3 wo.heap.size 24 n (fun i => .int .u32 (cAt z 0 i)) := made1 hown
          have HR := Lib.hid hR
          clear hown hgrow gi gz0 gz1 gz2 j0 hR
          go_wp2_with fail
          go_loopw [73, 18] (fun v73 _ wr => ∃ i : Nat, i ≤ j ∧ v73 = .int .i64 i ∧ Cells wr wo.heap.size 24 n (fun o => .int .u32 (cAt z i o)) ∧ Below wo.heap.size wo wr) (fun v73 _ _ => j - (intOf v73).toNat)
          case atStart => exact ⟨0, Nat.zero_le _, rfl, HR.out, hb3⟩
          case round =>
            obtain ⟨i, hi, rfl, hCi, hbi⟩ := hrel
            have HCI := Lib.hid hCi
            clear hCi HR hb3
            by_cases hlt : i < j
            · exact absurd hlt (by omega)
            · obtain rfl : i = j := by omega
              clear hlt
              go_wp2_with fail
              go_loopw [20, 19] (fun v20 v19 wr => ∃ l : Nat, l ≤ n ∧ v20 = .int .i64 l ∧ v19 = .int .i64 ((if false && !true then dist (cAt z i) l else 0 : Nat) : Int) ∧ Cells wr wo.heap.size 24 n (fun o => .int .u32 (cAt z i o)) ∧ Below wo.heap.size wo wr) (fun v20 _ _ => n - (intOf v20).toNat)
              case atStart => exact ⟨0, Nat.zero_le _, rfl, rfl, HCI.out, hbi⟩
              case round =>
                obtain ⟨l, hl', rfl, rfl, hCl, hbl⟩ := hrel
                have HCL := Lib.hid hCl
                have HML := Lib.hid (HMJ.out.later (fun a ha => hbl.block a ha))
                clear hCl HCI hbi
                by_cases hlt : l < n
                · obtain ⟨cc, hcc⟩ : ∃ cc : Nat, cAt z i l = cc := ⟨_, rfl⟩
                  have q1 : wr.cell? ⟨wo.heap.size, l, none⟩ = some (.int .u32 (cc : Int)) := HCL.out.cellv hlt (by rw [hcc])
                  have hcl : cc ≤ 65536 := by have := cAt_le z i l; omega
                  have hd : dist (cAt z i) (l + 1) = dist (cAt z i) l + if cc = 0 then 0 else 1 := by rw [dist, hcc]
                  have hdl := dist_le (cAt z i) l
                  have u9 := use9 p S T Z q m n l _ _ _ _ wr hlt (by omega) HML.out
                  have u10 := ts10 p S T Z q m n l _ _ _ _ wr hlt (by omega) HML.out
                  have u11 := part11 p S T Z q m n l _ _ _ _ wr hlt (by omega) HML.out
                  unfold inPart at u11
                  rw [hcc] at u9 u10 u11
                  have HD := Lib.hid hd
                  have hzz := HCL.out.lt
                  clear hd hcc
                  by_cases h0 : cc = 0
                  · subst h0
                    simp at u9 u10 u11
                    have U9 := Lib.hid u9
                    have U10 := Lib.hid u10
                    have U11 := Lib.hid u11
                    clear u9 u10 u11
                    go_wp2_with fail
                    refine U9.out.mono ?_
                    rintro e w4 ⟨rfl, rfl⟩
                    go_wp2_with fail
                    refine U10.out.mono ?_
                    rintro e w4 ⟨rfl, rfl⟩
                    go_wp2_with fail
                    refine U11.out.mono ?_
                    rintro e w5 ⟨rfl, b5⟩
                    have q5 := later q1 b5
                    have C5 := HCL.out.below b5 hzz
                    have B5 := hbl.trans (b5.mono hbl.size)
                    clear b5
                    have C5' := Lib.hid C5
                    clear C5
                    go_wp2_with fail
                    go_roundw
                    case rel => exact ⟨l + 1, by omega, by go_num, by (simp [HD.out]), C5'.out, B5⟩
                    case measure => simp [intOf]; omega
                  · have hcb : (cc == 0) = false := by simpa using h0
                    have hpos : 0 < cc := by omega
                    rw [hcb] at u11
                    simp at u9 u10 u11
                    have U9 := Lib.hid u9
                    have U10 := Lib.hid u10
                    have U11 := Lib.hid u11
                    have H0 := Lib.hid h0
                    clear u9 u10 u11 hcb h0
                    go_wp2_with fail
                    refine U9.out.mono ?_
                    rintro e w4 ⟨rfl, rfl⟩
                    go_wp2_with fail
                    refine U10.out.mono ?_
                    rintro e w4 ⟨rfl, rfl⟩
                    go_wp2_with fail
                    refine U11.out.mono ?_
                    rintro e w5 ⟨rfl, b5⟩
                    have q5 := later q1 b5
                    have C5 := HCL.out.below b5 hzz
                    have B5 := hbl.trans (b5.mono hbl.size)
                    clear b5
                    have C5' := Lib.hid C5
                    clear C5
                    go_wp2_with fail
                    go_roundw
                    case rel => exact ⟨l + 1, by omega, by go_num, by (simp [HD.out, H0.out]), C5'.out, B5⟩
                    case measure => simp [intOf]; omega
                · obtain rfl : l = n := by omega
                  clear hlt
                  go_wp2_with fail
                  refine (len12 p S T Z q m l _ _ _ _ _ HML.out).mono ?_
                  rintro e w4 ⟨rfl, rfl⟩
                  go_wp2_with fail
                  go_ret
                  exact ⟨by simp, hbj.trans (hbl.mono hsz)⟩

end Go.Proofs.Ytlehgpnglghlkaa.fnRecordUsageCountsEveryCall
