import Derived.Test.YtfmfniddnlpkmaaDoorKit
import Derived.Test.YtfmfniddnlpkmaaDoorObJ
namespace Go.Proofs.YtfmfniddnlpkmaaDoor.fnObjectSpreadHelperUseCounts
open Go.ChangeShapes Go.WideShapes Go.ChangeAt Go.RowKit
set_option linter.unusedVariables false
set_option maxRecDepth 100000
set_option maxHeartbeats 2000000

theorem early (a0 : Int) (a1 a3 : Bool) (a : Option Addr) (n cap : Nat) (w : World) (h : 65536 < n) :
    Calls Tryd.prog 5 #[.int .i32 a0, .bool a1, .slice a n cap, .bool a3] w fun e w' => e = .returned (.bool true) ∧ Below w.heap.size w w' := by
  have H20 := Lib.hid (zz20 a0 a1 a3 a n cap)
  by_cases hd : n ≤ 1048576
  · have hdd : decide (n ≤ 1048576) = true := by simpa using hd
    rw [hdd] at H20
    clear hdd
    go_enter Tryd.func5, Tryd.ntmps5
    go_wp2_with (go_at_call 20; refine (H20.out _).mono ?_; rintro e wx ⟨rfl, rfl⟩)
    go_ret
    exact ⟨rfl, Below.refl _ _⟩
  · have hdd : decide (n ≤ 1048576) = false := by simpa using hd
    rw [hdd] at H20
    clear hdd
    go_enter Tryd.func5, Tryd.ntmps5
    go_wp2_with (go_at_call 20; refine (H20.out _).mono ?_; rintro e wx ⟨rfl, rfl⟩)
    go_ret
    exact ⟨rfl, Below.refl _ _⟩
theorem u32_keep (s : Nat) (h : s ≤ 65536) : IntKind.u32.wrap (s : Int) = s := by
  simp [IntKind.wrap, IntKind.bits, IntKind.signed]
  omega
theorem stepT {Bf : Nat → Bool} {i : Nat} (h : Bf i = true) : cnt Bf (i + 1) = ((cnt Bf i).1 + 1, (cnt Bf i).2.1 + (if 0 < (cnt Bf i).1 ∧ (cnt Bf i).2.2 = true then 1 else 0), false) := by
  conv => lhs; unfold cnt
  rw [if_pos h]
theorem stepF {Bf : Nat → Bool} {i : Nat} (h : Bf i = false) : cnt Bf (i + 1) = ((cnt Bf i).1, (cnt Bf i).2.1, true) := by
  conv => lhs; unfold cnt
  rw [if_neg (by rw [h]; decide)]
theorem accT (s : Nat) (o : Bool) : plus (decide (0 < s) && o) = if 0 < s ∧ o = true then 1 else 0 := by
  cases o <;> by_cases h : 0 < s <;> simp [plus, h]
set_option maxHeartbeats 16000000 in
theorem main (a0 : Int) (a1 a3 : Bool) (a : Option Addr) (n cap : Nat) (Bf : Nat → Bool) (w : World) (hn : n ≤ 65536) (hB : IsBools w a n cap Bf) :
    Calls Tryd.prog 5 #[.int .i32 a0, .bool a1, .slice a n cap, .bool a3] w fun e w' => e = .returned (.bool true) ∧ Below w.heap.size w w' := by
  have H20 := Lib.hid (zz20 a0 a1 a3 a n cap)
  have hdd : decide (n ≤ 1048576) = true := by simp; omega
  rw [hdd] at H20
  clear hdd
  have H21 := Lib.hid (clone2 a n cap Bf w hn hB)
  have HM := Lib.hid (mask24 a1)
  clear hB
  go_enter Tryd.func5, Tryd.ntmps5
  go_wp2_with (go_at_call 20; refine (H20.out _).mono ?_; rintro e wx ⟨rfl, rfl⟩)
  refine H21.out.mono ?_
  clear H21 H20
  rintro e w1 ⟨fs, FB, rfl, hfs, hb1⟩
  have H22 := Lib.hid (obj22 fs FB n a3 Bf w1 hn hfs)
  have HFS := Lib.hid hfs
  have HB1 := Lib.hid hb1
  clear hfs hb1
  go_wp2_with fail
  refine H22.out.mono ?_
  clear H22
  rintro e w2 ⟨EO, PR, P, qf, rfl, hobj, hb2⟩
  have HO := Lib.hid hobj
  have HB2 := Lib.hid hb2
  clear hobj hb2
  go_wp2_with (go_at_call 24; refine (HM.out _).mono ?_; rintro e wx ⟨rfl, rfl⟩)
  refine (new23 (fm a1) w2).mono ?_
  rintro e w3 ⟨p, S, mm, rfl, hos, hb3, hS⟩
  obtain ⟨F0, F1, hF⟩ : ∃ F0 F1, FF a1 Bf n = (F0, F1) := ⟨_, _, rfl⟩
  have HL : Hid (∀ W, Below w3.heap.size w3 W → Calls Tryd.prog 32 #[.pointer (some ⟨p, 0, none⟩), .agg #[.int .i32 a0], .pointer (some ⟨EO, 0, none⟩)] W (Low p S mm (fm a1) a0 F0 F1 W)) := fun W hb => by
    have := low32 p S mm EO PR n a1 a0 a3 qf Bf W hn (hos.below hb) ((HO.out.below hb3).below hb)
    rw [hF] at this
    exact this
  have HOS := Lib.hid hos
  have HB3 := Lib.hid hb3
  clear hos hb3
  go_wp2_with fail
  refine (zz25 p S mm EO (fm a1) a0 F0 F1 w3 HOS.out HL.out).mono ?_
  rintro e w4 ⟨⟨v, rfl⟩, hos4, hfr4⟩
  have hs1 := HB1.out.size
  have hs2 := HB2.out.size
  have hs3 := HB3.out.size
  have hb4 : Below w.heap.size w w4 := ((HB1.out.trans (HB2.out.mono hs1)).trans (HB3.out.mono (by omega))).trans (hfr4.below (fun j hj => by have : j = S := hj; omega) (by omega))
  have hfs4 : n = 0 ∧ fs = none ∨ fs = some ⟨FB, 0, none⟩ ∧ RowUpTo w4 FB 4 n n (fun i => .bool (Bf i)) := by
    rcases HFS.out with h | ⟨h, hr⟩
    · exact .inl h
    · have h1 := hr.lt
      have h3 := (hr.below HB2.out hr.lt).below HB3.out (by omega)
      exact .inr ⟨h, h3.kept (hfr4.block FB h3.lt (fun e => by have : FB = S := e; omega))⟩
  have HOS4 := Lib.hid hos4
  have HB4 := Lib.hid hb4
  have HF4 := Lib.hid hfs4
  have HF := Lib.hid hF
  clear hos4 hfr4 hb4 hfs4 hF hs1 hs2 hs3 HOS HB1 HB2 HB3 HL HFS hS HM HO
  go_wp2_with fail
  go_loopw [12, 13, 14, 15] (fun v12 v13 v14 v15 wr => ∃ (i s r : Nat) (sv : Bool), i ≤ n ∧ v15 = .int .i64 i ∧ v12 = .int .i64 s ∧ v13 = .int .i64 r ∧ v14 = .bool sv ∧ s = (cnt Bf i).1 ∧ sv = decide (0 < s) ∧ r = (cnt Bf i).2.1 + plus (sv && (cnt Bf i).2.2) ∧ r ≤ i ∧ w4 = wr) (fun _ _ _ v15 _ => n - (intOf v15).toNat)
  case atStart => exact ⟨0, 0, 0, false, Nat.zero_le _, rfl, rfl, rfl, rfl, rfl, rfl, rfl, Nat.le_refl _, rfl⟩
  case round =>
    obtain ⟨i, s, r, sv, hi, rfl, rfl, rfl, rfl, hs, hsv, hr, hri, rfl⟩ := hrel
    have HS := Lib.hid hs
    have HV := Lib.hid hsv
    have HR := Lib.hid hr
    clear hs hsv hr
    by_cases hlt : i < n
    · obtain ⟨rfl, hF⟩ : fs = some ⟨FB, 0, none⟩ ∧ RowUpTo w4 FB 4 n n (fun i => .bool (Bf i)) := by
        rcases HF4.out with ⟨h, _⟩ | h
        · omega
        · exact h
      have hfc := hF.cell hlt
      obtain ⟨b, hb⟩ : ∃ b, Bf i = b := ⟨_, rfl⟩
      have HBi := Lib.hid hb
      simp only [hb] at hfc
      clear hb
      have hsi : s ≤ i := by rw [HS.out]; exact (cnt_le Bf i).1
      cases b
      · cases sv
        · clear hF
          have h0 : ¬ 0 < s := by simpa using HV.out.symm
          go_wp2_with fail
          go_roundw
          case rel =>
            refine ⟨i + 1, s, r, false, by omega, by go_num, rfl, rfl, rfl, ?_, HV.out, ?_, by omega, trivial⟩
            · rw [stepF HBi.out]; exact HS.out
            · rw [stepF HBi.out]; exact HR.out.trans (by simp [plus])
          case measure => simp [intOf]; omega
        · have h0 : 0 < s := by simpa using HV.out.symm
          obtain ⟨k, rfl⟩ : ∃ k, i = k + 1 := ⟨i - 1, by omega⟩
          have hfk := hF.cell (i := k) (by omega)
          obtain ⟨b2, hb2⟩ : ∃ b, Bf k = b := ⟨_, rfl⟩
          have HB2 := Lib.hid hb2
          simp only [hb2] at hfk
          have hop := cnt_open Bf k
          rw [hb2] at hop
          have hkl : k < n := by omega
          have HOP := Lib.hid hop
          clear hF hb2 hop
          cases b2
          · go_wp2_with fail
            go_roundw
            case rel =>
              refine ⟨k + 1 + 1, s, r, true, by omega, by go_num, rfl, rfl, rfl, ?_, HV.out, ?_, by omega, trivial⟩
              · rw [stepF HBi.out]; exact HS.out
              · rw [stepF HBi.out]; exact HR.out.trans (by rw [HOP.out]; rfl)
            case measure => simp [intOf]; omega
          · go_wp2_with fail
            go_roundw
            case rel =>
              refine ⟨k + 1 + 1, s, r + 1, true, by omega, by go_num, rfl, by go_num, rfl, ?_, HV.out, ?_, by omega, trivial⟩
              · rw [stepF HBi.out]; exact HS.out
              · rw [stepF HBi.out]
                have := HR.out
                rw [HOP.out] at this
                simp [plus] at this ⊢
                omega
            case measure => simp [intOf]; omega
      · clear hF
        go_wp2_with fail
        go_roundw
        case rel =>
          refine ⟨i + 1, s + 1, r, true, by omega, by go_num, by go_num, rfl, rfl, ?_, by simp, ?_, by omega, trivial⟩
          · rw [stepT HBi.out]; simp only; rw [← HS.out]
          · rw [stepT HBi.out]
            have := HR.out
            rw [HV.out, accT, HS.out] at this
            simp only [Bool.and_false]
            exact this
        case measure => simp [intOf]; omega
    · obtain rfl : i = n := by omega
      have hsi : s ≤ i := by rw [HS.out]; exact (cnt_le Bf i).1
      have ws : IntKind.u32.wrap (s : Int) = s := u32_keep s (by omega)
      have wr : IntKind.u32.wrap (r : Int) = r := u32_keep r (by omega)
      cases a1
      · obtain ⟨rfl, rfl⟩ : F0 = 0 ∧ F1 = 0 := by
          have := HF.out
          simp [FF] at this
          exact ⟨this.1.symm, this.2.symm⟩
        have U0 : Hid (Calls Tryd.prog 26 #[.pointer (some ⟨p, 0, none⟩), .int .i64 0] w4 fun e w' => e = .returned (.int .u32 0) ∧ w4 = w') := by have h := use26 p S mm _ _ _ 0 (by decide) w4 HOS4.out; exact h
        have U1 : Hid (Calls Tryd.prog 26 #[.pointer (some ⟨p, 0, none⟩), .int .i64 1] w4 fun e w' => e = .returned (.int .u32 0) ∧ w4 = w') := by have h := use26 p S mm _ _ _ 1 (by decide) w4 HOS4.out; exact h
        have U2 : Hid (Calls Tryd.prog 26 #[.pointer (some ⟨p, 0, none⟩), .int .i64 2] w4 fun e w' => e = .returned (.int .u32 0) ∧ w4 = w') := by have h := use26 p S mm _ _ _ 2 (by decide) w4 HOS4.out; exact h
        have U3 : Hid (Calls Tryd.prog 26 #[.pointer (some ⟨p, 0, none⟩), .int .i64 3] w4 fun e w' => e = .returned (.int .u32 0) ∧ w4 = w') := by have h := use26 p S mm _ _ _ 3 (by decide) w4 HOS4.out; exact h
        go_wp2_with (first | (go_at_call 26; (with_reducible refine (U0.out).mono ?_); rintro e wx ⟨rfl, rfl⟩) | (go_at_call 26; (with_reducible refine (U1.out).mono ?_); rintro e wx ⟨rfl, rfl⟩) | (go_at_call 26; (with_reducible refine (U2.out).mono ?_); rintro e wx ⟨rfl, rfl⟩) | (go_at_call 26; (with_reducible refine (U3.out).mono ?_); rintro e wx ⟨rfl, rfl⟩))
        go_ret
        exact ⟨rfl, HB4.out⟩
      · by_cases hs0 : s = 0
        · obtain ⟨rfl, rfl⟩ : F0 = 0 ∧ F1 = 0 := by
            have := HF.out
            have h0 : ¬ 0 < (cnt Bf i).1 := by rw [← HS.out]; omega
            unfold FF at this
            rw [if_neg (fun h => h0 h.2)] at this
            exact ⟨(Prod.mk.inj this).1.symm, (Prod.mk.inj this).2.symm⟩
          subst hs0
          have U0 : Hid (Calls Tryd.prog 26 #[.pointer (some ⟨p, 0, none⟩), .int .i64 0] w4 fun e w' => e = .returned (.int .u32 0) ∧ w4 = w') := by have h := use26 p S mm _ _ _ 0 (by decide) w4 HOS4.out; exact h
          have U1 : Hid (Calls Tryd.prog 26 #[.pointer (some ⟨p, 0, none⟩), .int .i64 1] w4 fun e w' => e = .returned (.int .u32 0) ∧ w4 = w') := by have h := use26 p S mm _ _ _ 1 (by decide) w4 HOS4.out; exact h
          have U2 : Hid (Calls Tryd.prog 26 #[.pointer (some ⟨p, 0, none⟩), .int .i64 2] w4 fun e w' => e = .returned (.int .u32 0) ∧ w4 = w') := by have h := use26 p S mm _ _ _ 2 (by decide) w4 HOS4.out; exact h
          have U3 : Hid (Calls Tryd.prog 26 #[.pointer (some ⟨p, 0, none⟩), .int .i64 3] w4 fun e w' => e = .returned (.int .u32 0) ∧ w4 = w') := by have h := use26 p S mm _ _ _ 3 (by decide) w4 HOS4.out; exact h
          go_wp2_with (first | (go_at_call 26; (with_reducible refine (U0.out).mono ?_); rintro e wx ⟨rfl, rfl⟩) | (go_at_call 26; (with_reducible refine (U1.out).mono ?_); rintro e wx ⟨rfl, rfl⟩) | (go_at_call 26; (with_reducible refine (U2.out).mono ?_); rintro e wx ⟨rfl, rfl⟩) | (go_at_call 26; (with_reducible refine (U3.out).mono ?_); rintro e wx ⟨rfl, rfl⟩))
          go_ret
          exact ⟨rfl, HB4.out⟩
        · obtain ⟨rfl, rfl⟩ : F0 = s ∧ F1 = r := by
            have := HF.out
            have h0 : 0 < (cnt Bf i).1 := by rw [← HS.out]; omega
            unfold FF at this
            rw [if_pos ⟨rfl, h0⟩] at this
            obtain ⟨e0, e1⟩ := Prod.mk.inj this
            refine ⟨e0.symm.trans HS.out.symm, ?_⟩
            have hsv : sv = true := by rw [HV.out]; simp; omega
            rw [HR.out, hsv, Bool.true_and]
            exact e1.symm
          have U0 : Hid (Calls Tryd.prog 26 #[.pointer (some ⟨p, 0, none⟩), .int .i64 0] w4 fun e w' => e = .returned (.int .u32 F0) ∧ w4 = w') := by have h := use26 p S mm _ _ _ 0 (by decide) w4 HOS4.out; exact h
          have U1 : Hid (Calls Tryd.prog 26 #[.pointer (some ⟨p, 0, none⟩), .int .i64 1] w4 fun e w' => e = .returned (.int .u32 F1) ∧ w4 = w') := by have h := use26 p S mm _ _ _ 1 (by decide) w4 HOS4.out; exact h
          have U2 : Hid (Calls Tryd.prog 26 #[.pointer (some ⟨p, 0, none⟩), .int .i64 2] w4 fun e w' => e = .returned (.int .u32 0) ∧ w4 = w') := by have h := use26 p S mm _ _ _ 2 (by decide) w4 HOS4.out; exact h
          have U3 : Hid (Calls Tryd.prog 26 #[.pointer (some ⟨p, 0, none⟩), .int .i64 3] w4 fun e w' => e = .returned (.int .u32 0) ∧ w4 = w') := by have h := use26 p S mm _ _ _ 3 (by decide) w4 HOS4.out; exact h
          go_wp2_with (first | (go_at_call 26; (with_reducible refine (U0.out).mono ?_); rintro e wx ⟨rfl, rfl⟩) | (go_at_call 26; (with_reducible refine (U1.out).mono ?_); rintro e wx ⟨rfl, rfl⟩) | (go_at_call 26; (with_reducible refine (U2.out).mono ?_); rintro e wx ⟨rfl, rfl⟩) | (go_at_call 26; (with_reducible refine (U3.out).mono ?_); rintro e wx ⟨rfl, rfl⟩))
          go_ret
          exact ⟨rfl, HB4.out⟩
theorem walk (a0 : Int) (a1 : Bool) (a2 : Option Addr) (len2 cap2 : Nat) (z2 : Nat → Bool) (a3 : Bool) (w : World) (w0 : (Lit.int .i32 a0).wf = true) (w2 : IsBools w a2 len2 cap2 z2) (hI : IR w) :
    Calls Tryd.prog 5 #[.int .i32 a0, .bool a1, .slice a2 len2 cap2, .bool a3] w fun e w' => e = .returned (.bool true) ∧ Below w.heap.size w w' := by
  by_cases h : 65536 < len2
  · exact early a0 a1 a3 a2 len2 cap2 w h
  · exact main a0 a1 a3 a2 len2 cap2 z2 w (by omega) w2

end Go.Proofs.YtfmfniddnlpkmaaDoor.fnObjectSpreadHelperUseCounts
