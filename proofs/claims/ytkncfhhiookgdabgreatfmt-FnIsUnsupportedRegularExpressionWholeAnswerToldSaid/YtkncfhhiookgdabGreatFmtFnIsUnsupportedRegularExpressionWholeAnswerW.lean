import Derived.Test.YtkncfhhiookgdabGreatFmtKit
import Derived.Test.YtkncfhhiookgdabGreatFmtIuH
namespace Go.Proofs.YtkncfhhiookgdabGreatFmt.fnIsUnsupportedRegularExpressionWholeAnswer
open Go.Proofs.YtkncfhhiookgdabGreatFmt
open Go.ChangeShapes Go.WideShapes Go.ChangeAt Go.RowKit
set_option linter.unusedVariables false
set_option maxRecDepth 100000
set_option maxHeartbeats 2000000

open Go.MuLone Go.Extern.Stop Go.Stop Go.Extern
theorem zz4 (f loc : Int) (s : ByteArray) (W : World) : Calls Tryz.prog 4 #[.int .u64 f, .int .i32 loc, .string s] W (SomeB W) := by
  by_cases h : 1048576 < (s.size : Int)
  · go_enter Tryz.func4, Tryz.ntmps4
    go_wp2_with fail
    go_ret
    exact ⟨_, rfl, rfl⟩
  · go_enter Tryz.func4, Tryz.ntmps4
    go_wp2_with fail
    go_ret
    exact ⟨_, rfl, rfl⟩
theorem zz8 (F : Interp) (B p k mu he ms : Nat) (f loc : Int) (s : ByteArray) (r : Nat) (W : World) (hF : F.answers W.tape) (H : LG B k mu he ms 0 (.slice none 0 0) 0 [] false W) (hP : PX p k mu he ms f W)
    (hr : Lib.lastIndexByte s 47 = (r : Int)) (hr1 : 1 ≤ r) (hr2 : r < s.size) (hs : s.size ≤ 1048576) (m1 : bits .and .u64 f 562949953421312 = 0) (m2 : bits .and .u64 f 2251799813685248 = 0) (m3 : bits .and .u64 f 18014398509481984 = 0) :
    Calls Tryz.prog 8 #[.pointer (some ⟨p, 0, none⟩), .int .i32 loc, .string s] W (RegIs B p k mu he ms f s r W) := by
  have hc := reg16 F B p k mu he ms f loc s r W hF H hP hr hr1 hr2 hs m1 m2 m3
  have HC := Lib.hid hc
  clear hc hF H hP hr m1 m2 m3
  go_enter Tryz.func8, Tryz.ntmps8
  go_wp2_with fail
  refine HC.out.mono ?_
  rintro e w1 ⟨u, fl, v, n, xs, rfl, hrest⟩
  have HR := Lib.hid hrest
  clear hrest
  go_wp2_with fail
  go_ret3
  exact ⟨u, fl, v, n, xs, rfl, HR.out⟩
set_option maxHeartbeats 8000000 in
theorem walk (F : Interp) (f loc : Int) (s : ByteArray) (w : World) (hF : F.answers w.tape) (h0 : 0 ≤ f) (h1 : f ≤ 18446744073709551615) :
    Calls Tryz.prog 3 #[.int .u64 f, .int .i32 loc, .string s] w fun e w' => e = .returned (.bool true) ∧ Below w.heap.size w w' := by
  have HF := Lib.hid hF
  have hft := feat f h0 h1
  have HFT := Lib.hid hft
  clear hF hft
  go_enter Tryz.func3, Tryz.ntmps3
  go_wp2_with fail
  refine (zz4 f loc s _).mono ?_
  rintro e0 w0 ⟨b, rfl, rfl⟩
  cases b with
  | false =>
    go_wp2_with fail
    go_ret
    exact ⟨rfl, Below.refl _ _⟩
  | true =>
    by_cases hl : 1048576 < (s.size : Int)
    · go_wp2_with fail
      go_ret
      exact ⟨rfl, Below.refl _ _⟩
    · have hs : s.size ≤ 1048576 := by omega
      go_wp2_with fail
      refine (last5 s hs _).mono ?_
      rintro e1 w1 ⟨rfl, rfl⟩
      obtain ⟨L, hL⟩ : ∃ L : Int, Lib.lastIndexByte s 47 = L := ⟨_, rfl⟩
      have hsp := Lib.lastIndexByte_spec s 47
      rw [hL] at hsp ⊢
      have HL := Lib.hid (And.intro hL hsp)
      clear hL hsp
      by_cases hlt : L < 1
      · go_wp2_with fail
        go_ret
        exact ⟨rfl, Below.refl _ _⟩
      · obtain ⟨r, rfl, hr2⟩ : ∃ r : Nat, L = (r : Int) ∧ r < s.size := by
          rcases HL.out.2 with ⟨e, _⟩ | ⟨i, h1, h2, _⟩
          · omega
          · exact ⟨i, h2, h1⟩
        have hr1 : 1 ≤ r := by omega
        go_wp2_with fail
        refine (zz6 _).mono ?_
        rintro e2 w2 ⟨rfl, rfl⟩
        by_cases hm : bits .and .u64 f 20829148276588544 = 0
        · obtain ⟨m1, m2, m3⟩ := HFT.out hm
          have HM := Lib.hid (And.intro m1 (And.intro m2 m3))
          clear m1 m2 m3 HFT
          go_upto_region 10 with fail
          clear hm
          go_wp2_with fail
          refine (new7 w w.heap.size (Nat.le_refl _) f).mono ?_
          rintro e3 w3 ⟨p, k, mu, he, ms, rfl, l3, p3, b3⟩
          have H3 := Lib.hid (And.intro l3 (And.intro p3 b3))
          clear l3 p3 b3
          go_wp2_with fail
          refine (zz8 F w.heap.size p k mu he ms f loc s r w3 (H3.out.2.2.tape ▸ HF.out) H3.out.1 H3.out.2.1 HL.out.1 hr1 hr2 hs HM.out.1 HM.out.2.1 HM.out.2.2).mono ?_
          rintro e4 w4 ⟨u, fl, v, n, xs, rfl, l4, p4, b4, hcase⟩
          have H4 := Lib.hid (And.intro l4 (And.intro p4 (And.intro (H3.out.2.2.trans b4) hcase)))
          clear l4 p4 b4 hcase
          go_wp2_with fail
          refine (zz9 w.heap.size p k mu he ms f v n xs fl w4 H4.out.1 H4.out.2.1).mono ?_
          rintro e5 w5 ⟨rfl, b5⟩
          have H5 := Lib.hid (And.intro (H4.out.2.2.1.trans b5) H4.out.2.2.2)
          clear b5 H4 H3
          have hpat : s.extract 1 r = pat s r := rfl
          have hflg : s.extract (r + 1) s.size = flg s r := rfl
          have hps : (pat s r).size ≤ 1048576 := by unfold pat; rw [ByteArray.size_extract]; omega
          have hfs : (flg s r).size ≤ 1048576 := by unfold flg; rw [ByteArray.size_extract]; omega
          go_upto_region 15 with fail
          cases fl with
          | true =>
            obtain ⟨hu, i, hi, hb⟩ : u = false ∧ ∃ i, i < (pat s r).size ∧ bt (pat s r) i = 41 := by
              rcases H5.out.2 with ⟨_, h2, h3⟩ | ⟨h, _⟩
              · exact ⟨h2, h3⟩
              · cases h
            subst hu
            go_wp2_with fail
            refine (hasb10 (pat s r) hps i hi hb _).mono ?_
            rintro e6 w6 ⟨rfl, rfl⟩
            go_wp2_with fail
            go_ret
            exact ⟨rfl, H5.out.1⟩
          | false =>
            have hFR : FR (flg s r) f u := by
              rcases H5.out.2 with ⟨h, _⟩ | ⟨_, h⟩
              · cases h
              · exact h
            have HFR := Lib.hid hFR
            clear hFR
            go_wp2_with fail
            refine (ref11 (flg s r) hfs f _).mono ?_
            rintro e6 w6 ⟨b, rfl, hb, rfl⟩
            obtain rfl := FR.one HFR.out hb
            clear hb
            cases u <;> (
              go_wp2_with fail
              go_ret
              exact ⟨rfl, H5.out.1⟩)
        · have hm2 : (bits .and .u64 f 20829148276588544 != 0) = true := by simpa using hm
          go_wp2_with fail
          go_ret
          exact ⟨rfl, Below.refl _ _⟩

end Go.Proofs.YtkncfhhiookgdabGreatFmt.fnIsUnsupportedRegularExpressionWholeAnswer
