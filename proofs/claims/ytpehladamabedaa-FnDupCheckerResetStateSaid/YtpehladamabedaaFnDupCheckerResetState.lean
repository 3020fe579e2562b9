/-
  For every int n and every array of 32 bytes the law FnDupCheckerResetState returns true: after reset the checker's case list is empty, its capacity is n and its bloom bytes are what they were; no condition.
-/
import Derived.Test.YtpehladamabedaaFnDupCheckerResetStateW
import Derived.Test.YtpehladamabedaaRows
import Derived.WalkKit
import Derived.ProofKit
import Derived.OpenShut
import Derived.ShutString
import Derived.ChangeOld
import Derived.Below
namespace Go.Proofs.Ytpehladamabedaa.fnDupCheckerResetState
open Go.ChangeShapes Go.WideShapes Go.ChangeAt Go.RowKit
open Go.ChangeMaps (open_string shut_string)
set_option linter.unusedVariables false

theorem own : ownKnob Try.prog.godebug = none := by kernel_rfl
theorem laidOut : laidOutB Try.prog = true := by kernel_rfl

set_option maxRecDepth 100000 in
theorem lifted (os : Os) (started : os.Started) (H : Type) (enc : TypeId × Value → H) :
    ReturnsInHanded {} Try.checked os 6 .any (Rows.fnDupCheckerResetStateSpec.pre6 enc Try.prog Try.f6 Rows.fnDupCheckerResetStateRow.domain false) (Rows.fnDupCheckerResetStateSpec.post enc Try.prog Try.f6 false true false false) := by
  refine returnsInHanded_of_change (C := Try.checked) own started (by kernel_rfl) Try.func6
    (ChangeSpec.witness6 (enc := enc) (C := Try.checked) false ⟨#[], #[.int .i64 0, .agg #[.int .u8 0, .int .u8 0, .int .u8 0, .int .u8 0, .int .u8 0, .int .u8 0, .int .u8 0, .int .u8 0, .int .u8 0, .int .u8 0, .int .u8 0, .int .u8 0, .int .u8 0, .int .u8 0, .int .u8 0, .int .u8 0, .int .u8 0, .int .u8 0, .int .u8 0, .int .u8 0, .int .u8 0, .int .u8 0, .int .u8 0, .int .u8 0, .int .u8 0, .int .u8 0, .int .u8 0, .int .u8 0, .int .u8 0, .int .u8 0, .int .u8 0, .int .u8 0]], []⟩ 8 (by kernel_rfl) (by kernel_rfl) (by kernel_rfl) (by kernel_rfl)) ?_
  intro W base args ds gs before hval0 hW hcnd _
  have hval : ∀ (j : Nat) t v, Try.f6.params[j]? = some t → args[j]? = some v → Value.okWide Try.prog W .any base t v := hval0
  have hW' := hW
  obtain ⟨p, q, hA0, hV, rfl, hfz, hnd⟩ := hW
  have hA : DataW.TrodAll enc Try.prog W 0 (fun _ => true) true Try.f6.params.toList args.toList ds p := hA0
  rw [Try.params6] at hA hval
  obtain ⟨v0, vs0, d0, ds0, p0, q0, hargs, rfl, rfl, h0, r0⟩ := trodAll_cons hA
  obtain ⟨v1, vs1, d1, ds1, p1, q1, rfl, rfl, rfl, h1, r1⟩ := trodAll_cons r0
  obtain ⟨rfl, rfl, rfl⟩ := trodAll_nil r1
  obtain rfl : args = #[v0, v1] := by cases args; simp_all
  obtain ⟨rfl, rfl⟩ := trodVars_none hV
  obtain ⟨a0, rfl, rfl, rfl, w0⟩ := open_int Try.underlying3 (hval 0 3 v0 rfl rfl) h0
  have k1 := h1
  have lt1 : ∀ x ∈ p1, x.block < W.heap.size := by obtain ⟨m, hm⟩ := k1; exact DataW.trod_lt m _ _ _ hm
  obtain ⟨cs, rfl, hsz, -⟩ : ∃ cs, v1 = .agg cs ∧ cs.size = Try.prog.cellsOf 59 ∧ Row.okWide Try.prog W .any base 59 cs := by
    have := hval 1 59 v1 rfl rfl
    simp only [Value.okWide, u59] at this
    exact this
  have hcs : cs.size = 32 := hsz.trans (by kernel_rfl)
  have hv : ∀ i, i < 32 → ∃ z, cs[i]? = some (.int .u8 z) := by
    obtain ⟨m, hm⟩ := k1
    obtain ⟨xs, m', rfl, -, -, hxs, hall⟩ := DataW.trod_array u59 hm
    intro i hi
    have h5 := hall i hi
    rw [List.getElem?_eq_getElem (by omega)] at h5
    obtain ⟨z, hz, -, -⟩ := DataW.trod_int u5 h5
    have hc5 : Try.prog.cellsOf 5 = 1 := by kernel_rfl
    rw [hc5, Nat.mul_one] at hz
    refine ⟨z, ?_⟩
    have hlt : i < cs.size := by omega
    have h6 : ((Value.agg cs).cells.toList.drop i).take 1 = [cs[i]] := by
      show (cs.toList.drop i).take 1 = _
      rw [List.drop_eq_getElem_cons (by simpa using hlt)]
      simp
    rw [h6, List.cons.injEq] at hz
    rw [Array.getElem?_eq_getElem hlt, hz.1]
  clear hA0 hval0
  refine (walk a0 cs W hcs hv).mono fun e W' ⟨he, bel⟩ => ?_
  subst he
  exact ⟨_, rfl, _, _, _, [], _, [], hW', trodAll_mk1 (shut_bool Try.underlying4 _), (trodAll_cons_mk (shut_int Try.underlying3 w0) (trodAll_cons_mk (Below.trod laidOut (by kernel_rfl) (of_decide_eq_true (by kernel_rfl)) k1 bel lt1) trodAll_mk0)), rfl, bel.frame _, fun h => by cases h⟩

set_option maxHeartbeats 10000000 in
theorem over : Rows.fnDupCheckerResetStateRow.holds Try.pinned (OpenSpec.ofChange Rows.fnDupCheckerResetStateSpec) :=
  OpenClaim.holds_of_wide 6 Try.f6 rfl rfl rfl rfl rfl rfl rfl ⟨rfl, rfl, rfl, rfl, rfl⟩ rfl rfl rfl rfl rfl (by as_aux_lemma => kernel_rfl) Try.func6 (by as_aux_lemma => kernel_rfl)
    (of_decide_eq_true (by as_aux_lemma => kernel_rfl)) (by unfold Func.isWrapper; first | (rw [if_pos (by decide +kernel)]; kernel_rfl) | (rw [if_neg (by decide +kernel)]; exact ⟨rfl, rfl⟩))
    (fun os started H enc _ => lifted os started H enc)

theorem proved : Rows.FnDupCheckerResetStateSaid := over
#print axioms proved
end Go.Proofs.Ytpehladamabedaa.fnDupCheckerResetState
