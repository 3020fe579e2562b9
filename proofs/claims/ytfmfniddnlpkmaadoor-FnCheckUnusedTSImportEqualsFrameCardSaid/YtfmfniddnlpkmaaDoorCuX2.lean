import Derived.Test.YtfmfniddnlpkmaaDoorKit
import Derived.Test.YtfmfniddnlpkmaaDoorCuH
import Derived.IntWalk
namespace Go.Proofs.YtfmfniddnlpkmaaDoor.fnCheckUnusedTSImportEqualsFrame
open Go.ChangeShapes Go.WideShapes Go.ChangeAt Go.RowKit
set_option linter.unusedVariables false
set_option maxRecDepth 100000
set_option maxHeartbeats 4000000

theorem main2 (x : Addr) (n c : Nat) (z : List Int) (kd dp : Int) (ex was : Bool) (bi vi : Int) (b v dep : Nat) (w : World) (hn1 : 1 ≤ n) (hn : n ≤ 65536)
    (hcell : ∀ i, i < n → w.cell? (x.add i) = some (.int .u32 (z.getD i 0))) (hz : ∀ i, i < n → 0 ≤ z.getD i 0 ∧ z.getD i 0 ≤ 4294967295) (hI : IR w)
    (hb : bi % (n : Int) = b) (hv : vi % (n : Int) = v) (hbn : b < n) (hvn : v < n) (ht : kd % 3 = 2) (hw : (kd / 3 % 2 == 0) = was) (hd : dp % 4 = dep) (hd4 : dep < 4) (hb0 : 0 ≤ bi) (hb1 : bi ≤ 4294967295) (hv0 : 0 ≤ vi) (hv1 : vi ≤ 4294967295) (hk0 : 0 ≤ kd) (hk1 : kd ≤ 255) (hd0 : 0 ≤ dp) (hd1 : dp ≤ 255) :
    Calls Tryd.prog 4 #[.slice (some x) n c, .int .u8 kd, .bool ex, .int .u32 bi, .int .u32 vi, .int .u8 dp] w fun e w' => e = .returned (.bool true) ∧ Below w.heap.size w w' := by
  have HC := Lib.hid hcell
  have HZ := Lib.hid hz
  have HI := Lib.hid hI
  have zi : 1 ≤ w.heap.size := cell_lt hI.1
  have hpos : (0 : Int) < (n : Int) := by omega
  have hne : ((n : Int) = 0) = False := by simp; omega
  clear hcell hz hI
  go_enter Tryd.func4, Tryd.ntmps4
  go_wp2_with fail
  refine (zz11 (some x) n c kd dp ex bi vi w (by omega)).mono ?_
  rintro e wx ⟨rfl, rfl⟩
  go_wp2_with fail
  have hn0 : ((n : Int) == 0) = false := by simp; omega
  simp only [hb, hv, ht, hw, hd, hn0]
  go_wp2_with fail
  go_loopw [19] (fun v19 wr => ∃ (i : Nat) (d : Value), i ≤ dep ∧ v19 = .int .i64 i ∧ Ch wr 2 v i d ∧ RowAt wr w.heap.size #[d, .int .i32 0] 38 ∧ Below w.heap.size w wr) (fun v19 _ => dep - (intOf v19).toNat)
  case atStart => exact ⟨0, .nilIface, Nat.zero_le _, rfl, .inr (.inr ⟨rfl, rfl⟩), RowAt.new _ _ _, by go_grown⟩
  case round =>
    obtain ⟨i, d, hi, rfl, hC, hE, hbr⟩ := hrel
    have HCH := Lib.hid hC
    have HE := Lib.hid hE
    have hsh := hC.shape
    have zE := hE.lt
    clear hC hE
    by_cases hlt : i < dep
    · rcases hsh with rfl | ⟨V, u, rfl⟩
      · have e0 := HE.out.cellv (j := 0) (v := .nilIface) rfl
        have e1 := HE.out.cellv (j := 1) (v := .int .i32 0) rfl
        go_wp2_with fail
        refine (dot14 2 v i _ _ HCH.out).mono ?_
        rintro e wx ⟨d', rfl, hC, hbx⟩
        have HE2 := Lib.hid (HE.out.below hbx HE.out.lt)
        have hbr2 := hbr.trans (hbx.mono hbr.size)
        have HCH2 := Lib.hid hC
        have f0 := HE2.out.frozen 0
        have f1 := HE2.out.frozen 1
        have e2 := HE2.out.cellv (j := 0) (v := .nilIface) rfl
        have e3 := HE2.out.cellv (j := 1) (v := .int .i32 0) rfl
        have zE2 := HE2.out.lt
        obtain ⟨y, ys, d2, rfl, _⟩ := hC
        clear hbx e0 e1 HCH HE hbr
        go_wp2_with fail
        go_roundw
        case rel => exact ⟨i + 1, _, by omega, by go_num, HCH2.out.kept (fun j hj => by
            obtain ⟨_, u', hr, hu⟩ := hj
            have hne := hr.ne HE2.out (by rcases hu with rfl | rfl | rfl <;> decide)
            rw [Below.heap_setCell _ _ _ _ hne, Below.heap_setCell _ _ _ _ hne]), (HE2.out.set 0 (.iface 209 (.pointer (some ⟨y, 0, none⟩)))).set 1 (.int .i32 0), by go_grown⟩
        case measure => simp [intOf]; omega
      · have e0 := HE.out.cellv (j := 0) (v := (.iface V (.pointer (some ⟨u, 0, none⟩)))) rfl
        have e1 := HE.out.cellv (j := 1) (v := .int .i32 0) rfl
        go_wp2_with fail
        refine (dot14 2 v i _ _ HCH.out).mono ?_
        rintro e wx ⟨d', rfl, hC, hbx⟩
        have HE2 := Lib.hid (HE.out.below hbx HE.out.lt)
        have hbr2 := hbr.trans (hbx.mono hbr.size)
        have HCH2 := Lib.hid hC
        have f0 := HE2.out.frozen 0
        have f1 := HE2.out.frozen 1
        have e2 := HE2.out.cellv (j := 0) (v := (.iface V (.pointer (some ⟨u, 0, none⟩)))) rfl
        have e3 := HE2.out.cellv (j := 1) (v := .int .i32 0) rfl
        have zE2 := HE2.out.lt
        obtain ⟨y, ys, d2, rfl, _⟩ := hC
        clear hbx e0 e1 HCH HE hbr
        go_wp2_with fail
        go_roundw
        case rel => exact ⟨i + 1, _, by omega, by go_num, HCH2.out.kept (fun j hj => by
            obtain ⟨_, u', hr, hu⟩ := hj
            have hne := hr.ne HE2.out (by rcases hu with rfl | rfl | rfl <;> decide)
            rw [Below.heap_setCell _ _ _ _ hne, Below.heap_setCell _ _ _ _ hne]), (HE2.out.set 0 (.iface 209 (.pointer (some ⟨y, 0, none⟩)))).set 1 (.int .i32 0), by go_grown⟩
        case measure => simp [intOf]; omega
    · obtain rfl : i = dep := by omega
      clear hlt
      rcases hsh with rfl | ⟨V, u, rfl⟩
      · have e0 := HE.out.cellv (j := 0) (v := .nilIface) rfl
        have e1 := HE.out.cellv (j := 1) (v := .int .i32 0) rfl
        go_wp2_with fail
        refine (loc15 was ex b 2 v i _ _ HCH.out).mono ?_
        rintro e w2 ⟨s, rfl, hs, hb2⟩
        have HS := Lib.hid hs
        have hbr2 := hbr.trans (hb2.mono hbr.size)
        clear hs hb2 HCH e0 e1 HE hbr zE
        go_wp2_with fail
        refine (syms17 x n c z _ hn (fun j hj => later (HC.out j hj) hbr2)).mono ?_
        rintro e w3 ⟨rfl, hsy, hb3⟩
        have HS3 := Lib.hid (HS.out.later hb3)
        have hbr3 := hbr2.trans (hb3.mono hbr2.size)
        obtain ⟨S, hS⟩ : ∃ S, w2.heap.size = S := ⟨_, rfl⟩
        have hS1 : w.heap.size ≤ S := by have := hbr2.size; omega
        rw [hS] at hsy
        have HSY := Lib.hid hsy
        clear hsy hb3 HS hbr2
        go_wp2_with (rw [hS])
        refine (new16 S n _).mono ?_
        rintro e w4 ⟨p, rfl, hp, hb4⟩
        have HST : Hid (St w4 p S n (fun i => z.getD i 0)) := ⟨hp, HSY.out.below hb4⟩
        have HS4 := Lib.hid (HS3.out.later hb4)
        have hbr4 := hbr3.trans (hb4.mono hbr3.size)
        clear hp hb4 HS3 hbr3 HSY
        go_wp2_with fail
        refine (call18 p S n v s was ex b 2 i _ _ hn hvn hbn HST.out HS4.out (HI.out.below hbr4) (by omega)).mono ?_
        rintro e w5 ⟨r, ra, rb, rfl, hst, hf⟩
        have HST5 := Lib.hid hst
        have hbr5 : Below w.heap.size w w5 := hbr4.trans (hf.below (fun j hj => by have : j = S := hj; omega) hbr4.size)
        clear hst hf HST HS4 hbr4
        go_wp2_with fail
        refine (syms19 p S n _ _ HST5.out).mono ?_
        rintro e w6 ⟨rfl, rfl⟩
        go_wp2_with fail
        go_loopw [26, 27] (fun v26 v27 wr => ∃ k : Nat, k ≤ n ∧ v26 = .int .i64 k ∧ wr = w5) (fun v26 _ _ => n - (intOf v26).toNat)
        case atStart => exact ⟨0, Nat.zero_le _, rfl, rfl⟩
        case round =>
          obtain ⟨k, hk, rfl, rfl⟩ := hrel
          by_cases hlt : k < n
          · have c0 := later (HC.out k hlt) hbr5
            have c1 := HST5.out.Sy.cell hlt
            have hzk := HZ.out k hlt
            obtain ⟨y, hy⟩ : ∃ y, z.getD k 0 = y := ⟨_, rfl⟩
            rw [hy] at c0 hzk
            obtain ⟨hy0, hy1⟩ := hzk
            cases r
            · simp only [Bool.false_eq_true, if_false, hy] at c1
              go_wp2_with fail
              go_roundw
              case rel => exact ⟨k + 1, by omega, by go_num, trivial⟩
              case measure => simp [intOf]; omega
            · simp only [if_true, updN] at c1
              by_cases hkv : k = v
              · subst hkv
                simp only [if_true, hy] at c1
                go_wp2_with fail
                go_roundw
                case rel => exact ⟨k + 1, by omega, by go_num, trivial⟩
                case measure => simp [intOf]; omega
              · have hkv' : ((k : Int) == (v : Int)) = false := by simp; omega
                simp only [hkv, if_false, hy] at c1
                go_wp2_with fail
                go_roundw
                case rel => exact ⟨k + 1, by omega, by go_num, trivial⟩
                case measure => simp [intOf]; omega
          · obtain rfl : k = n := by omega
            go_wp2_with fail
            go_ret
            exact ⟨rfl, hbr5⟩
      · have e0 := HE.out.cellv (j := 0) (v := (.iface V (.pointer (some ⟨u, 0, none⟩)))) rfl
        have e1 := HE.out.cellv (j := 1) (v := .int .i32 0) rfl
        go_wp2_with fail
        refine (loc15 was ex b 2 v i _ _ HCH.out).mono ?_
        rintro e w2 ⟨s, rfl, hs, hb2⟩
        have HS := Lib.hid hs
        have hbr2 := hbr.trans (hb2.mono hbr.size)
        clear hs hb2 HCH e0 e1 HE hbr zE
        go_wp2_with fail
        refine (syms17 x n c z _ hn (fun j hj => later (HC.out j hj) hbr2)).mono ?_
        rintro e w3 ⟨rfl, hsy, hb3⟩
        have HS3 := Lib.hid (HS.out.later hb3)
        have hbr3 := hbr2.trans (hb3.mono hbr2.size)
        obtain ⟨S, hS⟩ : ∃ S, w2.heap.size = S := ⟨_, rfl⟩
        have hS1 : w.heap.size ≤ S := by have := hbr2.size; omega
        rw [hS] at hsy
        have HSY := Lib.hid hsy
        clear hsy hb3 HS hbr2
        go_wp2_with (rw [hS])
        refine (new16 S n _).mono ?_
        rintro e w4 ⟨p, rfl, hp, hb4⟩
        have HST : Hid (St w4 p S n (fun i => z.getD i 0)) := ⟨hp, HSY.out.below hb4⟩
        have HS4 := Lib.hid (HS3.out.later hb4)
        have hbr4 := hbr3.trans (hb4.mono hbr3.size)
        clear hp hb4 HS3 hbr3 HSY
        go_wp2_with fail
        refine (call18 p S n v s was ex b 2 i _ _ hn hvn hbn HST.out HS4.out (HI.out.below hbr4) (by omega)).mono ?_
        rintro e w5 ⟨r, ra, rb, rfl, hst, hf⟩
        have HST5 := Lib.hid hst
        have hbr5 : Below w.heap.size w w5 := hbr4.trans (hf.below (fun j hj => by have : j = S := hj; omega) hbr4.size)
        clear hst hf HST HS4 hbr4
        go_wp2_with fail
        refine (syms19 p S n _ _ HST5.out).mono ?_
        rintro e w6 ⟨rfl, rfl⟩
        go_wp2_with fail
        go_loopw [26, 27] (fun v26 v27 wr => ∃ k : Nat, k ≤ n ∧ v26 = .int .i64 k ∧ wr = w5) (fun v26 _ _ => n - (intOf v26).toNat)
        case atStart => exact ⟨0, Nat.zero_le _, rfl, rfl⟩
        case round =>
          obtain ⟨k, hk, rfl, rfl⟩ := hrel
          by_cases hlt : k < n
          · have c0 := later (HC.out k hlt) hbr5
            have c1 := HST5.out.Sy.cell hlt
            have hzk := HZ.out k hlt
            obtain ⟨y, hy⟩ : ∃ y, z.getD k 0 = y := ⟨_, rfl⟩
            rw [hy] at c0 hzk
            obtain ⟨hy0, hy1⟩ := hzk
            cases r
            · simp only [Bool.false_eq_true, if_false, hy] at c1
              go_wp2_with fail
              go_roundw
              case rel => exact ⟨k + 1, by omega, by go_num, trivial⟩
              case measure => simp [intOf]; omega
            · simp only [if_true, updN] at c1
              by_cases hkv : k = v
              · subst hkv
                simp only [if_true, hy] at c1
                go_wp2_with fail
                go_roundw
                case rel => exact ⟨k + 1, by omega, by go_num, trivial⟩
                case measure => simp [intOf]; omega
              · have hkv' : ((k : Int) == (v : Int)) = false := by simp; omega
                simp only [hkv, if_false, hy] at c1
                go_wp2_with fail
                go_roundw
                case rel => exact ⟨k + 1, by omega, by go_num, trivial⟩
                case measure => simp [intOf]; omega
          · obtain rfl : k = n := by omega
            go_wp2_with fail
            go_ret
            exact ⟨rfl, hbr5⟩

end Go.Proofs.YtfmfniddnlpkmaaDoor.fnCheckUnusedTSImportEqualsFrame
