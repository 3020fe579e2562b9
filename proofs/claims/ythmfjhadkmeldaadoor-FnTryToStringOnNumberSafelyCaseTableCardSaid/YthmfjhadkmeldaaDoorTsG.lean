import Derived.Test.YthmfjhadkmeldaaDoorKit
import Derived.Test.YthmfjhadkmeldaaDoorTsE
import Derived.Test.YthmfjhadkmeldaaDoorTsF
import Derived.Laws.FloatArith
import Derived.Laws.Cover2
namespace Go.Proofs.YthmfjhadkmeldaaDoor
open Go.ChangeShapes Go.WideShapes Go.ChangeAt Go.RowKit
set_option linter.unusedVariables false
set_option maxRecDepth 100000
set_option maxHeartbeats 2000000

open Go.Extern
/-- The order of two floats. -/
theorem ord_eq (x y : Nat) : FloatKind.f64.format.order x y = Ieee.double.order x y := rfl
theorem nan7 (x : Nat) (b : Bool) (h : (FloatKind.f64.format.order x x != some .eq) = b) (w : World) : Calls Tryd.prog 7 #[.float .f64 x] w fun e w' => e = .returned (.bool b) ∧ w = w' := by
  go_enter Tryd.func7, Tryd.ntmps7
  go_wp2_with fail
  go_ret
  exact ⟨by first | rfl | (congr 2), rfl⟩
theorem inf8p (x : Nat) (b : Bool) (h : (FloatKind.f64.format.order x 9218868437227405311 == some .gt) = b) (w : World) : Calls Tryd.prog 8 #[.float .f64 x, .int .i64 1] w fun e w' => e = .returned (.bool b) ∧ w = w' := by
  go_enter Tryd.func8, Tryd.ntmps8
  go_wp2_with fail
  go_ret
  exact ⟨by first | rfl | (congr 2), rfl⟩
theorem neg_run (x : Nat) (W : World) : (Op.unary .neg (.float .f64 x)).run Tryd.prog W = .ok (.float .f64 (Op.negFloat .f64 x)) W := by kernel_rfl
theorem inf8n (x : Nat) (b : Bool) (h : (FloatKind.f64.format.order (Op.negFloat .f64 x) 9218868437227405311 == some .gt) = b) (w : World) : Calls Tryd.prog 8 #[.float .f64 x, .int .i64 (-1)] w fun e w' => e = .returned (.bool b) ∧ w = w' := by
  have hn := neg_run
  go_enter Tryd.func8, Tryd.ntmps8
  go_wp2_with fail
  go_ret
  exact ⟨by first | rfl | (congr 2), rfl⟩
theorem fti_any (b : Nat) (h : floatToIntVal .f64 b .i32 = none) : Conv.floatToInt .f64 b .i32 = (choose (.floatToInt .f64 b .i32) >>= fun r => pure (.int .i32 (IntKind.i32.wrap r))) := by
  unfold floatToIntVal at h
  unfold Conv.floatToInt
  split at h
  · rename_i m he
    split at h
    · cases h
    · rename_i hb
      rw [he]
      simp only []
      rw [if_neg hb]
  · rename_i he
    rw [he]
theorem conv_any {P : Program} (w : World) (src dst : TypeId) (b : Nat) (hs : (P.underlying src).isSome = true) (hd : P.underlying dst = some (.int .i32)) (h : floatToIntVal .f64 b .i32 = none) :
    (convert src dst (.float .f64 b)).run P w = .ok (.int .i32 (IntKind.i32.wrap ((Question.floatToInt .f64 b .i32).cut (w.tape w.drawn (.floatToInt .f64 b .i32))))) w.drew := by
  obtain ⟨u, hs'⟩ := Option.isSome_iff_exists.1 hs
  have h1 : (convert src dst (.float .f64 b)).run P w = (Conv.floatToInt .f64 b .i32).run P w := by
    cases u <;> simp [convert, run_underlying hs', run_underlying hd]
  rw [h1, fti_any b h, Sem.run_bind, run_choose]
  rfl
/-- The cut to int32: some int32, and the number's own where it has one. -/
theorem conv32 (x : Nat) (w : World) : ∃ i w1, -2147483648 ≤ i ∧ i ≤ 2147483647 ∧ (convert 22 21 (.float .f64 x)).run Tryd.prog w = .ok (.int .i32 i) w1 ∧ (w1 = w ∨ w1 = w.drew) := by
  have hs : (Tryd.prog.underlying 22).isSome = true := by rw [Tryd.underlying22]; rfl
  by_cases h : ∃ n, floatToIntVal .f64 x .i32 = some n
  · obtain ⟨n, hn⟩ := h
    refine ⟨n, w, ?_, ?_, run_convert_float_int w 22 21 .f64 .i32 x n hs Tryd.underlying21 hn, .inl rfl⟩
    · have := floatToIntVal_wf hn
      simp [Lit.wf, IntKind.min, IntKind.max, IntKind.signed, IntKind.bits] at this
      omega
    · have := floatToIntVal_wf hn
      simp [Lit.wf, IntKind.min, IntKind.max, IntKind.signed, IntKind.bits] at this
      omega
  · have hnone : floatToIntVal .f64 x .i32 = none := by
      cases hf : floatToIntVal .f64 x .i32 with
      | none => rfl
      | some n => exact (h ⟨n, hf⟩).elim
    have hany := conv_any w 22 21 x hs Tryd.underlying21 hnone
    refine ⟨_, _, ?_, ?_, hany, .inr rfl⟩
    · have := wf_wrap .i32 ((Question.floatToInt .f64 x .i32).cut (w.tape w.drawn (.floatToInt .f64 x .i32)))
      simp only [Lit.wf, Bool.and_eq_true, decide_eq_true_eq] at this
      exact this.1
    · have := wf_wrap .i32 ((Question.floatToInt .f64 x .i32).cut (w.tape w.drawn (.floatToInt .f64 x .i32)))
      simp only [Lit.wf, Bool.and_eq_true, decide_eq_true_eq] at this
      exact this.2

end Go.Proofs.YthmfjhadkmeldaaDoor
