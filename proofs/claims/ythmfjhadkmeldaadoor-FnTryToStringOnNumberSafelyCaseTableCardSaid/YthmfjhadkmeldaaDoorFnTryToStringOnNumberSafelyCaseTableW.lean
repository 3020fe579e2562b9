import Derived.Test.YthmfjhadkmeldaaDoorKit
import Derived.Test.YthmfjhadkmeldaaDoorTsG
namespace Go.Proofs.YthmfjhadkmeldaaDoor.fnTryToStringOnNumberSafelyCaseTable
open Go.ChangeShapes Go.WideShapes Go.ChangeAt Go.RowKit
set_option linter.unusedVariables false
set_option maxRecDepth 100000
set_option maxHeartbeats 2000000

open Go.Extern Go.Proofs.YthmfjhadkmeldaaDoor
theorem c1_eq : FloatKind.f64.nearest (-2147483648) = 13970166044103278592 := by decide
theorem c2_eq : FloatKind.f64.nearest 2147483647 = 4746794007244308480 := by decide
/-- The text of what is no int32. -/
def KS (k0 k1 k2 : Bool) : ByteArray := if k0 then ⟨#[78, 97, 78]⟩ else if k1 then ⟨#[73, 110, 102, 105, 110, 105, 116, 121]⟩ else if k2 then ⟨#[45, 73, 110, 102, 105, 110, 105, 116, 121]⟩ else ⟨#[]⟩
def Out (s : ByteArray) (ok : Bool) (w : World) (e : Ending) (w' : World) : Prop := e = .returned (.tuple #[.string s, .bool ok]) ∧ Below w.heap.size w w'
theorem four_int (x b : Nat) (i : Int) (w : World) (h0 : -2147483648 ≤ i) (h1 : i ≤ 2147483647) (hb : 2 ≤ b) (hb2 : b ≤ 36) (hT : TzAt w) (hp : PowTab w) (hcv : (convert 22 21 (.float .f64 x)).run Tryd.prog w = .ok (.int .i32 i) w)
    (he : (FloatKind.f64.format.order (floatOfInt .f64 i) x == some .eq) = true) : Calls Tryd.prog 4 #[.float .f64 x, .int .i64 (b : Int)] w (Out ⟨(numT i b).toArray⟩ true w) := by
  have HC := Lib.hid (fi6all i b w h0 h1 hb hb2 hT hp)
  clear hT hp
  go_enter Tryd.func4, Tryd.ntmps4
  go_wp2_with fail
  refine HC.out.mono ?_
  rintro e w1 ⟨rfl, hb1⟩
  go_wp2_with fail
  go_ret2
  exact ⟨rfl, hb1⟩
theorem five_int (x b : Nat) (i : Int) (w : World) (h0 : -2147483648 ≤ i) (h1 : i ≤ 2147483647) (hb : 2 ≤ b) (hb2 : b ≤ 36) (hcv : ∀ W, (convert 22 2 (.float .f64 x)).run Tryd.prog W = .ok (.int .i64 i) W)
    (he : (FloatKind.f64.format.order (floatOfInt .f64 i) x == some .eq) = true) (k0 : (FloatKind.f64.format.order x x != some .eq) = false) (k1 : (FloatKind.f64.format.order x 9218868437227405311 == some .gt) = false) (k2 : (FloatKind.f64.format.order x 18442240474082181119 == some .lt) = false)
    (k3 : (FloatKind.f64.format.order x 13970166044103278592 == some .gt || FloatKind.f64.format.order x 13970166044103278592 == some .eq) = true) (k4 : (FloatKind.f64.format.order x 4746794007244308480 == some .lt || FloatKind.f64.format.order x 4746794007244308480 == some .eq) = true) :
    Calls Tryd.prog 5 #[.float .f64 x, .int .i64 (b : Int)] w (Out ⟨(numT i b).toArray⟩ true w) := by
  have HC := Lib.hid (zz9 i b w h0 h1 hb hb2)
  go_enter Tryd.func5, Tryd.ntmps5
  go_wp2_with fail
  refine HC.out.mono ?_
  rintro e w1 ⟨rfl, hb1⟩
  go_wp2_with fail
  go_ret2
  exact ⟨rfl, hb1⟩
/-- What no int32 equals: by its kind. -/
theorem four_no (x b : Nat) (i : Int) (w w1 : World) (hw : Below w.heap.size w w1) (hcv : (convert 22 21 (.float .f64 x)).run Tryd.prog w = .ok (.int .i32 i) w1)
    (he : (FloatKind.f64.format.order (floatOfInt .f64 i) x == some .eq) = false) (k0 k1 k2 : Bool) (h0 : (FloatKind.f64.format.order x x != some .eq) = k0) (h1 : (FloatKind.f64.format.order x 9218868437227405311 == some .gt) = k1) (h2 : (FloatKind.f64.format.order (Op.negFloat .f64 x) 9218868437227405311 == some .gt) = k2) :
    Calls Tryd.prog 4 #[.float .f64 x, .int .i64 (b : Int)] w (Out (KS k0 k1 k2) (k0 || (k1 || k2)) w) := by
  have C0 := Lib.hid (nan7 x k0 h0 w1)
  have C1 := Lib.hid (inf8p x k1 h1 w1)
  have C2 := Lib.hid (inf8n x k2 h2 w1)
  have HW := Lib.hid hw
  clear h0 h1 h2 hw
  go_enter Tryd.func4, Tryd.ntmps4
  go_wp2_with fail
  refine C0.out.mono ?_
  rintro e w2 ⟨rfl, rfl⟩
  cases k0
  · go_wp2_with fail
    refine C1.out.mono ?_
    rintro e w2 ⟨rfl, rfl⟩
    cases k1
    · go_wp2_with fail
      refine C2.out.mono ?_
      rintro e w2 ⟨rfl, rfl⟩
      cases k2
      · go_wp2_with fail
        go_ret2
        exact ⟨rfl, HW.out⟩
      · go_wp2_with fail
        go_ret2
        exact ⟨rfl, HW.out⟩
    · go_wp2_with fail
      go_ret2
      exact ⟨rfl, HW.out⟩
  · go_wp2_with fail
    go_ret2
    exact ⟨rfl, HW.out⟩
theorem five_no (x b : Nat) (w : World) (k0 k1 k2 r1 r2 : Bool) (h0 : (FloatKind.f64.format.order x x != some .eq) = k0) (h1 : (FloatKind.f64.format.order x 9218868437227405311 == some .gt) = k1) (h2 : (FloatKind.f64.format.order x 18442240474082181119 == some .lt) = k2)
    (k3 : (FloatKind.f64.format.order x 13970166044103278592 == some .gt || FloatKind.f64.format.order x 13970166044103278592 == some .eq) = r1) (k4 : (FloatKind.f64.format.order x 4746794007244308480 == some .lt || FloatKind.f64.format.order x 4746794007244308480 == some .eq) = r2)
    (hr : r1 = true → r2 = true → ∃ t, (∀ W, (convert 22 2 (.float .f64 x)).run Tryd.prog W = .ok (.int .i64 t) W) ∧ (FloatKind.f64.format.order (floatOfInt .f64 t) x == some .eq) = false) :
    Calls Tryd.prog 5 #[.float .f64 x, .int .i64 (b : Int)] w (Out (KS k0 k1 k2) (k0 || (k1 || k2)) w) := by
  cases k0
  · cases k1
    · cases k2
      · cases r1
        · clear hr
          go_enter Tryd.func5, Tryd.ntmps5
          go_wp2_with fail
          go_ret2
          exact ⟨rfl, Below.refl _ _⟩
        · cases r2
          · clear hr
            go_enter Tryd.func5, Tryd.ntmps5
            go_wp2_with fail
            go_ret2
            exact ⟨rfl, Below.refl _ _⟩
          · obtain ⟨t, hcv, he⟩ := hr rfl rfl
            clear hr
            go_enter Tryd.func5, Tryd.ntmps5
            go_wp2_with fail
            go_ret2
            exact ⟨rfl, Below.refl _ _⟩
      · clear hr k3 k4
        go_enter Tryd.func5, Tryd.ntmps5
        go_wp2_with fail
        go_ret2
        exact ⟨rfl, Below.refl _ _⟩
    · clear hr k3 k4 h2
      go_enter Tryd.func5, Tryd.ntmps5
      go_wp2_with fail
      go_ret2
      exact ⟨rfl, Below.refl _ _⟩
  · clear hr k3 k4 h1 h2
    go_enter Tryd.func5, Tryd.ntmps5
    go_wp2_with fail
    go_ret2
    exact ⟨rfl, Below.refl _ _⟩
theorem val64 {x : Nat} {t : Int} (h : (Ieee.double.read x).toInt .zero = some t) (h0 : -2147483648 ≤ t) (h1 : t ≤ 2147483647) : floatToIntVal .f64 x .i64 = some t := by
  unfold floatToIntVal
  rw [show (FloatKind.f64.decode x).toInt .zero = some t from h]
  simp only []
  rw [if_pos (by simp [IntKind.min, IntKind.max, IntKind.signed, IntKind.bits]; omega)]
theorem val32 {x : Nat} {t : Int} (h : (Ieee.double.read x).toInt .zero = some t) (h0 : -2147483648 ≤ t) (h1 : t ≤ 2147483647) : floatToIntVal .f64 x .i32 = some t := by
  unfold floatToIntVal
  rw [show (FloatKind.f64.decode x).toInt .zero = some t from h]
  simp only []
  rw [if_pos (by simp [IntKind.min, IntKind.max, IntKind.signed, IntKind.bits]; omega)]
theorem hs22 : (Tryd.prog.underlying 22).isSome = true := by rw [Tryd.underlying22]; rfl
/-- The function and the model give the same. -/
theorem both (x b : Nat) (hx : x < 18446744073709551616) (hb : 2 ≤ b) (hb2 : b ≤ 36) (w : World) (hT : TzAt w) (hp : PowTab w) :
    ∃ s ok, Calls Tryd.prog 4 #[.float .f64 x, .int .i64 (b : Int)] w (Out s ok w) ∧ ∀ W, Calls Tryd.prog 5 #[.float .f64 x, .int .i64 (b : Int)] W (Out s ok W) := by
  obtain ⟨i, w1, h0, h1, hcv, hw1⟩ := conv32 x w
  have hbw : Below w.heap.size w w1 := by
    rcases hw1 with rfl | rfl
    · exact Below.refl _ _
    · exact below_drewN (Below.refl _ _) 1
  by_cases he : Ieee.double.order (FloatKind.f64.nearest i) x = some .eq
  · obtain ⟨e1, e2, e3, e4, _, _⟩ := eq_int i h0 h1 he
    obtain ⟨e5, e6⟩ := eq_int2 i h0 h1 he
    have he' : (FloatKind.f64.format.order (floatOfInt .f64 i) x == some .eq) = true := by rw [beq_iff_eq]; exact he
    rw [c1_eq] at e5
    rw [c2_eq] at e6
    refine ⟨_, _, four_int x b i w h0 h1 hb hb2 hT hp (run_convert_float_int w 22 21 .f64 .i32 x i hs22 Tryd.underlying21 (val32 e1 h0 h1)) he', fun W => five_int x b i W h0 h1 hb hb2 (fun W => run_convert_float_int W 22 2 .f64 .i64 x i hs22 Tryd.underlying2 (val64 e1 h0 h1)) he' ?_ ?_ ?_ ?_ ?_⟩
    · simp only [ord_eq, e2]; rfl
    · rw [ord_eq, beq_eq_false_iff_ne]; exact e3
    · rw [ord_eq, beq_eq_false_iff_ne]; exact e4
    · simp only [ord_eq]
      rcases e5 with e | e <;> rw [e] <;> rfl
    · simp only [ord_eq]
      rcases e6 with e | e <;> rw [e] <;> rfl
  · have he' : (FloatKind.f64.format.order (floatOfInt .f64 i) x == some .eq) = false := by rw [beq_eq_false_iff_ne]; exact he
    refine ⟨_, _, four_no x b i w w1 hbw hcv he' _ _ _ rfl rfl rfl, fun W => ?_⟩
    have hn : (FloatKind.f64.format.order (Op.negFloat .f64 x) 9218868437227405311 == some .gt) = (FloatKind.f64.format.order x 18442240474082181119 == some .lt) := by
      rw [Bool.eq_iff_iff, beq_iff_eq, beq_iff_eq]
      exact neg_max x hx
    rw [hn]
    refine five_no x b W _ _ _ _ _ rfl rfl rfl rfl rfl fun r1 r2 => ?_
    have r1' : Ieee.double.order x (FloatKind.f64.nearest (-2147483648)) = some .eq ∨ Ieee.double.order x (FloatKind.f64.nearest (-2147483648)) = some .gt := by
      rw [c1_eq]
      simp only [ord_eq, Bool.or_eq_true, beq_iff_eq] at r1
      exact r1.symm
    have r2' : Ieee.double.order x (FloatKind.f64.nearest 2147483647) = some .eq ∨ Ieee.double.order x (FloatKind.f64.nearest 2147483647) = some .lt := by
      rw [c2_eq]
      simp only [ord_eq, Bool.or_eq_true, beq_iff_eq] at r2
      exact r2.symm
    obtain ⟨t, ht, t0, t1⟩ := in_range r1' r2'
    refine ⟨t, fun W => run_convert_float_int W 22 2 .f64 .i64 x t hs22 Tryd.underlying2 (val64 ht t0 t1), ?_⟩
    rw [beq_eq_false_iff_ne]
    intro hc
    have hit : i = t := by
      have := run_convert_float_int w 22 21 .f64 .i32 x t hs22 Tryd.underlying21 (val32 ht t0 t1)
      rw [hcv] at this
      injection this with this
      injection this
    subst hit
    exact he hc
theorem main (x b : Nat) (w : World) (hx : x < 18446744073709551616) (hb : 2 ≤ b) (hb2 : b ≤ 36) (hT : TzAt w) (hp : PowTab w) : Calls Tryd.prog 3 #[.float .f64 x, .int .i64 (b : Int)] w fun e w' => e = .returned (.bool true) ∧ Below w.heap.size w w' := by
  obtain ⟨s, ok, h4, h5⟩ := both x b hx hb hb2 w hT hp
  have H4 := Lib.hid h4
  have H5 := Lib.hid h5
  clear h4 h5 hT hp
  go_enter Tryd.func3, Tryd.ntmps3
  go_wp2_with fail
  refine H4.out.mono ?_
  rintro e w1 ⟨rfl, hb1⟩
  go_wp2_with fail
  refine (H5.out w1).mono ?_
  rintro e w2 ⟨rfl, hb2'⟩
  have B2 := Lib.hid (hb1.trans (hb2'.mono hb1.size))
  clear hb1 hb2'
  go_wp2_with fail
  go_ret
  exact ⟨by simp, B2.out⟩
theorem walk (a0 : Nat) (a1 : Int) (w : World) (w0 : (Lit.float .f64 a0).wf = true) (hT : TzAt w) (hp : PowTab w) : Calls Tryd.prog 3 #[.float .f64 a0, .int .i64 a1] w fun e w' => e = .returned (.bool true) ∧ Below w.heap.size w w' := by
  have hx : a0 < 18446744073709551616 := by
    simpa [Lit.wf] using w0
  by_cases h : 2 ≤ a1 ∧ a1 ≤ 36
  · obtain ⟨b, rfl⟩ : ∃ b : Nat, a1 = (b : Int) := ⟨a1.toNat, by omega⟩
    exact main a0 b w hx (by omega) (by omega) hT hp
  · clear hT hp w0
    by_cases h2 : a1 < 2
    · clear h
      go_enter Tryd.func3, Tryd.ntmps3
      go_wp2_with fail
      go_ret
      exact ⟨rfl, Below.refl _ _⟩
    · have h3 : 36 < a1 := by omega
      clear h
      go_enter Tryd.func3, Tryd.ntmps3
      go_wp2_with fail
      go_ret
      exact ⟨rfl, Below.refl _ _⟩

end Go.Proofs.YthmfjhadkmeldaaDoor.fnTryToStringOnNumberSafelyCaseTable
