/-
  What is proved: for every feature set without lookbehind, named groups and property escapes, every location and every literal text whose last slash stands past its first byte, the answer's pattern and flags are the text's own parts, an error is logged only where the pattern holds a closing parenthesis and then the answer is 'supported', and otherwise the answer is 'unsupported' exactly when some flag byte is refused; fmt's text is told by the kit's own function; under the card's own conditions.
-/
import Derived.Test.YtkncfhhiookgdabGreatFmtFnIsUnsupportedRegularExpressionWholeAnswerW
import Derived.Test.YtkncfhhiookgdabGreatFmtRows
import Derived.Test.YtkncfhhiookgdabGreatFmtCards
import Derived.Test.YtkncfhhiookgdabGreatFmtTie
import Derived.LaidLaws
import Derived.LaidHandle
import Derived.Handed
import Derived.ChangeVars
import Derived.SevenTiedAt
import Derived.Stop.Joined
import Derived.Stop.JoinedAt
import Derived.Stop.JoinedTold
import Derived.SevenTold
import Derived.LaidMore
import Derived.Lay
import Derived.WalkKit
import Derived.ProofKit
import Derived.OpenShut
import Derived.ShutString
import Derived.ChangeOld
import Derived.Below
namespace Go.Proofs.YtkncfhhiookgdabGreatFmt.fnIsUnsupportedRegularExpressionWholeAnswer
open Go.Proofs.YtkncfhhiookgdabGreatFmt
open Go.Extern.Stop Go.Stop Go.Extern
open Go.ChangeShapes Go.WideShapes Go.ChangeAt Go.RowKit
open Go.ChangeMaps (open_string shut_string)
set_option linter.unusedVariables false

theorem own : ownKnob Tryz.prog.godebug = none := by kernel_rfl
theorem laidOut : laidOutB Tryz.prog = true := by kernel_rfl

theorem stopKnobs : Tryz.pinned.checked.prog.stopKnobs = [] := by kernel_rfl
theorem quiet (os : Os) : Stop.quiet Tryz.pinned.checked.prog os := by
  intro k hk
  rw [stopKnobs] at hk
  cases hk
set_option maxRecDepth 100000 in
theorem lifted (os : Os) (started : os.Started) (H : Type) (enc : TypeId × Value → H) :
    ReturnsInTold none {} Tryz.checked os 3 .any Input.okWide ((OpenSpec.ofChange Rows.fnIsUnsupportedRegularExpressionWholeAnswerSpec).preRow enc Tryz.prog Tryz.f3 Rows.fnIsUnsupportedRegularExpressionWholeAnswerRow.domain false Rows.fnIsUnsupportedRegularExpressionWholeAnswerRow.laid) (fun F => ((OpenSpec.ofChange Rows.fnIsUnsupportedRegularExpressionWholeAnswerSpec).at F.told).post enc Tryz.prog Tryz.f3 false true false false) (aloneAtReturn Tryz.prog) nothingAlways := by
  refine returnsInTold_of_row (C := Tryz.checked) (s := (OpenSpec.ofChange Rows.fnIsUnsupportedRegularExpressionWholeAnswerSpec)) (by kernel_rfl) own started (by kernel_rfl) Tryz.func3
    (OpenSpec.witness_stopped_at (enc := enc) (C := Tryz.checked) false (World.laidAll Tryz.prog os Rows.fnIsUnsupportedRegularExpressionWholeAnswerRow.laid) #[.int .u64 0, .int .i32 0, .string ByteArray.empty] (World.laidAll_os _ _ _) (by kernel_rfl) (by kernel_rfl) (by kernel_rfl)
      (OpenSpec.preRow_of_B rfl 8 (by kernel_rfl) (by kernel_rfl) (by rw [MakeChecks.laidMetH_plain _ _ _ (by kernel_rfl)]; exact laidMet_laidAll _ (by kernel_rfl) (by kernel_rfl)))) ?_
  intro F W base args ds gs before _ hF hval0 hW hcnd _ _ hL _
  have hval : ∀ (j : Nat) t v, Tryz.f3.params[j]? = some t → args[j]? = some v → Value.okWide Tryz.prog W .any base t v := hval0
  have hW' := hW
  obtain ⟨p, q, hA0, hV, rfl, hfz, hnd⟩ := hW
  have hA : DataW.TrodAll enc Tryz.prog W 0 (fun _ => true) true Tryz.f3.params.toList args.toList ds p := hA0
  rw [Tryz.params3] at hA hval
  obtain ⟨v0, vs0, d0, ds0, p0, q0, hargs, rfl, rfl, h0, r0⟩ := trodAll_cons hA
  obtain ⟨v1, vs1, d1, ds1, p1, q1, rfl, rfl, rfl, h1, r1⟩ := trodAll_cons r0
  obtain ⟨v2, vs2, d2, ds2, p2, q2, rfl, rfl, rfl, h2, r2⟩ := trodAll_cons r1
  obtain ⟨rfl, rfl, rfl⟩ := trodAll_nil r2
  obtain rfl : args = #[v0, v1, v2] := by cases args; simp_all
  obtain ⟨rfl, rfl⟩ := trodVars_none hV
  obtain ⟨a0, rfl, rfl, rfl, w0⟩ := open_int Tryz.underlying22 (hval 0 22 v0 rfl rfl) h0
  obtain ⟨a1, rfl, rfl, rfl, w1⟩ := open_int Tryz.underlying21 (hval 1 21 v1 rfl rfl) h1
  obtain ⟨a2, rfl, rfl, rfl, w2⟩ := open_string Tryz.underlying9 (hval 2 9 v2 rfl rfl) h2
  clear hA0 hval0
  have hb0 : 0 ≤ a0 ∧ a0 ≤ 18446744073709551615 := by
    have := w0
    simp [Lit.wf, IntKind.min, IntKind.max, IntKind.signed, IntKind.bits] at this
    omega
  refine (walk F.told a0 a1 a2 W hF hb0.1 hb0.2).mono fun e W' ⟨he, bel⟩ => ?_
  subst he
  exact ⟨_, rfl, _, _, _, [], _, [], hW', trodAll_mk1 (shut_bool Tryz.underlying4 _), (trodAll_cons_mk (shut_int Tryz.underlying22 w0) (trodAll_cons_mk (shut_int Tryz.underlying21 w1) (trodAll_cons_mk (shut_string Tryz.underlying9 w2) trodAll_mk0))), rfl, bel.frame _, fun h => by cases h⟩

set_option maxHeartbeats 10000000 in
theorem proved : Rows.FnIsUnsupportedRegularExpressionWholeAnswerToldSaid :=
  Claim7.holds_of_told_tied_any_at .later 3 Tryz.f3 "fmt.Sprintf" [] [] (true, "d9bb3eae5fb9e838a7ff1ea74d5202f3c67a6423109b4ae3db1724236380f6d0") false false [.data, .pinned] true (by kernel_rfl) rfl rfl rfl laidOut (by kernel_rfl) rfl ⟨rfl, rfl, rfl, rfl, rfl, rfl, rfl⟩ rfl rfl (by kernel_rfl) (by kernel_rfl) Tryz.func3 (by kernel_rfl)
    (of_decide_eq_true (by kernel_rfl)) (by unfold Func.isWrapper; first | (rw [if_pos (by decide +kernel)]; kernel_rfl) | (rw [if_neg (by decide +kernel)]; exact ⟨rfl, rfl⟩)) (by kernel_rfl) rfl (by kernel_rfl) (by kernel_rfl)
    (by kernel_rfl) (by kernel_rfl) (by kernel_rfl) (by kernel_rfl) (by kernel_rfl) (by kernel_rfl) (by kernel_rfl) (by kernel_rfl) (by kernel_rfl) rfl (by kernel_rfl) rfl rfl
    rfl rfl
    rfl (by kernel_rfl) (by kernel_rfl) (by kernel_rfl) (by decide) (by kernel_rfl) fnIsUnsupportedRegularExpressionWholeAnswer_row_tie
    (OpenClaim.moreEntering_of (by kernel_rfl) (by kernel_rfl) (by kernel_rfl) (by kernel_rfl) (by kernel_rfl) (by kernel_rfl) (by kernel_rfl) (by kernel_rfl) (by kernel_rfl) (by kernel_rfl))
    ⟨_, WideRow.started_initial, quiet _⟩
    (fun os started _ H enc _ => lifted os started H enc)
#print axioms proved
end Go.Proofs.YtkncfhhiookgdabGreatFmt.fnIsUnsupportedRegularExpressionWholeAnswer
