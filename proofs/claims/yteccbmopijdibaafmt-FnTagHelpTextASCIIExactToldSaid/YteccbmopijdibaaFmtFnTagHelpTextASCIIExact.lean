/-
  For every tag of at most 1 MiB whose bytes are all below 128, the help text is the model's text: the fragment's text for the empty tag, else the tag as Go quotes it, followed by a blank and the word tag; no condition.
-/
import Derived.Test.YteccbmopijdibaaFmtFnTagHelpTextASCIIExactW
import Derived.Test.YteccbmopijdibaaFmtRows
import Derived.Test.YteccbmopijdibaaFmtCards
import Derived.LaidLaws
import Derived.LaidHandle
import Derived.Handed
import Derived.ChangeVars
import Derived.SevenToldRow
import Derived.Stop.Joined
import Derived.Stop.JoinedAt
import Derived.Stop.JoinedTold
import Derived.SevenTold
import Derived.LaidMore
import Derived.Lay
import Derived.WalkKit
import Derived.ProofKit
import Derived.OpenShut
import Derived.ShutString
import Derived.ChangeOld
import Derived.Below
namespace Go.Proofs.YteccbmopijdibaaFmt.fnTagHelpTextASCIIExact
open Go.Proofs.YteccbmopijdibaaFmt
open Go.Extern.Stop Go.Stop Go.Extern
open Go.ChangeShapes Go.WideShapes Go.ChangeAt Go.RowKit
open Go.ChangeMaps (open_string shut_string)
set_option linter.unusedVariables false

theorem own : ownKnob Tryf.prog.godebug = none := by kernel_rfl
theorem laidOut : laidOutB Tryf.prog = true := by kernel_rfl

theorem stopKnobs : Tryf.pinned.checked.prog.stopKnobs = [] := by kernel_rfl
theorem quiet (os : Os) : Stop.quiet Tryf.pinned.checked.prog os := by
  intro k hk
  rw [stopKnobs] at hk
  cases hk
set_option maxRecDepth 100000 in
theorem lifted (os : Os) (started : os.Started) (H : Type) (enc : TypeId × Value → H) :
    ReturnsInTold none {} Tryf.checked os 3 .any Input.okWide ((OpenSpec.ofChange Rows.fnTagHelpTextASCIIExactSpec).preRow enc Tryf.prog Tryf.f3 Rows.fnTagHelpTextASCIIExactRow.domain false Rows.fnTagHelpTextASCIIExactRow.laid) (fun F => ((OpenSpec.ofChange Rows.fnTagHelpTextASCIIExactSpec).at F.told).post enc Tryf.prog Tryf.f3 false true false false) (aloneAtReturn Tryf.prog) nothingAlways := by
  refine returnsInTold_of_row (C := Tryf.checked) (s := (OpenSpec.ofChange Rows.fnTagHelpTextASCIIExactSpec)) (by kernel_rfl) own started (by kernel_rfl) Tryf.func3
    (OpenSpec.witness_stopped_at (enc := enc) (C := Tryf.checked) false (World.laidAll Tryf.prog os Rows.fnTagHelpTextASCIIExactRow.laid) #[.string ByteArray.empty] (World.laidAll_os _ _ _) (by kernel_rfl) (by kernel_rfl) (by kernel_rfl)
      (OpenSpec.preRow_of_B rfl 8 (by kernel_rfl) (by kernel_rfl) (by rw [MakeChecks.laidMetH_plain _ _ _ (by kernel_rfl)]; exact laidMet_laidAll _ (by kernel_rfl) (by kernel_rfl)))) ?_
  intro F W base args ds gs before _ hF hval0 hW hcnd _ _ hL _
  have hval : ∀ (j : Nat) t v, Tryf.f3.params[j]? = some t → args[j]? = some v → Value.okWide Tryf.prog W .any base t v := hval0
  have hW' := hW
  obtain ⟨p, q, hA0, hV, rfl, hfz, hnd⟩ := hW
  have hA : DataW.TrodAll enc Tryf.prog W 0 (fun _ => true) true Tryf.f3.params.toList args.toList ds p := hA0
  rw [Tryf.params3] at hA hval
  obtain ⟨v0, vs0, d0, ds0, p0, q0, hargs, rfl, rfl, h0, r0⟩ := trodAll_cons hA
  obtain ⟨rfl, rfl, rfl⟩ := trodAll_nil r0
  obtain rfl : args = #[v0] := by cases args; simp_all
  obtain ⟨rfl, rfl⟩ := trodVars_none hV
  obtain ⟨a0, rfl, rfl, rfl, w0⟩ := open_string Tryf.underlying9 (hval 0 9 v0 rfl rfl) h0
  clear hA0 hval0
  refine (walk F.told a0 W hF (told_at F a0)).mono fun e W' ⟨he, bel⟩ => ?_
  subst he
  exact ⟨_, rfl, _, _, _, [], _, [], hW', trodAll_mk1 (shut_bool Tryf.underlying4 _), (trodAll_cons_mk (shut_string Tryf.underlying9 w0) trodAll_mk0), rfl, bel.frame _, fun h => by cases h⟩

set_option maxHeartbeats 10000000 in
theorem proved : Rows.FnTagHelpTextASCIIExactToldSaid :=
  Claim7.holds_of_told_any 3 Tryf.f3 "fmt.Sprintf" [] [] (true, "c18b5d29cfe00bc335cd7f15558c8dba26f938fb27eea0d68f227eba587c311f") false false (by kernel_rfl) rfl rfl rfl laidOut (by kernel_rfl) rfl ⟨rfl, rfl, rfl, rfl, rfl, rfl, rfl⟩ rfl rfl (by kernel_rfl) (by kernel_rfl) Tryf.func3 (by kernel_rfl)
    (of_decide_eq_true (by kernel_rfl)) (by unfold Func.isWrapper; first | (rw [if_pos (by decide +kernel)]; kernel_rfl) | (rw [if_neg (by decide +kernel)]; exact ⟨rfl, rfl⟩)) (by kernel_rfl) rfl (by kernel_rfl) (by kernel_rfl)
    (by kernel_rfl) (by kernel_rfl) (by kernel_rfl) (by kernel_rfl) (by kernel_rfl) (by kernel_rfl) (by kernel_rfl) (by kernel_rfl) (by kernel_rfl) rfl (by kernel_rfl) rfl rfl
    rfl rfl
    rfl (by kernel_rfl) (by kernel_rfl) (by kernel_rfl) (by decide) (by kernel_rfl)
    (OpenClaim.moreEntering_of (by kernel_rfl) (by kernel_rfl) (by kernel_rfl) (by kernel_rfl) (by kernel_rfl) (by kernel_rfl) (by kernel_rfl) (by kernel_rfl) (by kernel_rfl) (by kernel_rfl))
    ⟨_, WideRow.started_initial, quiet _⟩
    (fun os started _ H enc _ => lifted os started H enc)
#print axioms proved
end Go.Proofs.YteccbmopijdibaaFmt.fnTagHelpTextASCIIExact
