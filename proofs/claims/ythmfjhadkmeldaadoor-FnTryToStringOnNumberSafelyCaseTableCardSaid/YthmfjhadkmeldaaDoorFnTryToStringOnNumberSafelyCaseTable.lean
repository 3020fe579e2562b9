/-
  FnTryToStringOnNumberSafelyCaseTable: for every float and every radix from 2 to 36 the text and the flag are those of the case table (conditions: none beyond the law's own bounds; three tables of the library as their initialisers lay them, tied).
-/
import Derived.Test.YthmfjhadkmeldaaDoorFnTryToStringOnNumberSafelyCaseTableW
import Derived.Test.YthmfjhadkmeldaaDoorTsU
import Derived.Test.YthmfjhadkmeldaaDoorRows
import Derived.Test.YthmfjhadkmeldaaDoorCards
import Derived.Test.YthmfjhadkmeldaaDoorTie
import Derived.LaidLaws
import Derived.LaidHandle
import Derived.Handed
import Derived.ChangeVars
import Derived.SevenTiedAt
import Derived.Stop.Joined
import Derived.LaidMore
import Derived.Lay
import Derived.WalkKit
import Derived.ProofKit
import Derived.OpenShut
import Derived.ShutString
import Derived.ChangeOld
import Derived.Below
namespace Go.Proofs.YthmfjhadkmeldaaDoor.fnTryToStringOnNumberSafelyCaseTable
open Go.Proofs.YthmfjhadkmeldaaDoor
open Go.ChangeShapes Go.WideShapes Go.ChangeAt Go.RowKit
open Go.ChangeMaps (open_string shut_string)
set_option linter.unusedVariables false

theorem own : ownKnob Tryd.prog.godebug = none := by kernel_rfl
theorem laidOut : laidOutB Tryd.prog = true := by kernel_rfl

set_option maxRecDepth 100000 in
theorem lifted (os : Os) (started : os.Started) (H : Type) (enc : TypeId × Value → H) :
    ReturnsInHanded {} Tryd.checked os 3 .any (fun w args => (Rows.fnTryToStringOnNumberSafelyCaseTableSpec.pre enc Tryd.prog Tryd.f3 Rows.fnTryToStringOnNumberSafelyCaseTableRow.domain false w args ∧ laidMetH Tryd.prog Rows.fnTryToStringOnNumberSafelyCaseTableRow.laid w) ∧ sizedMet enc Tryd.prog Tryd.f3 (OpenSpec.ofChange Rows.fnTryToStringOnNumberSafelyCaseTableSpec) false w args)
      (Rows.fnTryToStringOnNumberSafelyCaseTableSpec.post enc Tryd.prog Tryd.f3 false true false false) := by
  refine returnsInHanded_of_change_and (C := Tryd.checked) (X := fun w _ => laidMetH Tryd.prog Rows.fnTryToStringOnNumberSafelyCaseTableRow.laid w) (fun _ _ _ hh h => h.of_heap hh) own started (by kernel_rfl) Tryd.func3
    (ChangeSpec.witness_shaped (enc := enc) (C := Tryd.checked) (os := os) (X := fun w _ => laidMetH Tryd.prog Rows.fnTryToStringOnNumberSafelyCaseTableRow.laid w) false (World.laidAll Tryd.prog os Rows.fnTryToStringOnNumberSafelyCaseTableRow.laid) #[.float .f64 0, .int .i64 0] 8 (World.laidAll_os _ _ _)
      (World.shaped_of_ZipB (by kernel_rfl) (by kernel_rfl)) (by kernel_rfl) (by kernel_rfl) (by kernel_rfl)
      (by rw [MakeChecks.laidMetH_plain _ _ _ (by kernel_rfl)]; exact laidMet_laidAll _ (by kernel_rfl) (by kernel_rfl))) ?_
  intro W base args ds gs before hval0 hW hcnd _ hL _
  have hval : ∀ (j : Nat) t v, Tryd.f3.params[j]? = some t → args[j]? = some v → Value.okWide Tryd.prog W .any base t v := hval0
  have hW' := hW
  obtain ⟨p, q, hA0, hV, rfl, hfz, hnd⟩ := hW
  have hA : DataW.TrodAll enc Tryd.prog W 0 (fun _ => true) true Tryd.f3.params.toList args.toList ds p := hA0
  rw [Tryd.params3] at hA hval
  obtain ⟨v0, vs0, d0, ds0, p0, q0, hargs, rfl, rfl, h0, r0⟩ := trodAll_cons hA
  obtain ⟨v1, vs1, d1, ds1, p1, q1, rfl, rfl, rfl, h1, r1⟩ := trodAll_cons r0
  obtain ⟨rfl, rfl, rfl⟩ := trodAll_nil r1
  obtain rfl : args = #[v0, v1] := by cases args; simp_all
  obtain ⟨rfl, rfl⟩ := trodVars_none hV
  have k0 := h0
  have lt0 : ∀ x ∈ p0, x.block < W.heap.size := by obtain ⟨m, hm⟩ := k0; exact DataW.trod_lt m _ _ _ hm
  obtain ⟨a0, rfl, -, -, w0⟩ := open_float Tryd.underlying22 (hval 0 22 v0 rfl rfl) h0
  obtain ⟨a1, rfl, rfl, rfl, w1⟩ := open_int Tryd.underlying3 (hval 1 3 v1 rfl rfl) h1
  clear hA0 hval0
  have hL' : laidMet Tryd.prog Rows.fnTryToStringOnNumberSafelyCaseTableRow.laid W := by rw [MakeChecks.laidMetH_plain _ _ _ (by kernel_rfl)] at hL; exact hL
  refine (walk a0 a1 W w0 (tz_of W hL') (pow_of W hL')).mono fun e W' ⟨he, bel⟩ => ?_
  subst he
  exact ⟨_, rfl, _, _, _, [], _, [], hW', trodAll_mk1 (shut_bool Tryd.underlying4 _), (trodAll_cons_mk (Below.trod laidOut (by kernel_rfl) (of_decide_eq_true (by kernel_rfl)) k0 bel lt0) (trodAll_cons_mk (shut_int Tryd.underlying3 w1) trodAll_mk0)), rfl, bel.frame _, fun h => by cases h⟩

set_option maxHeartbeats 10000000 in
theorem over : Rows.fnTryToStringOnNumberSafelyCaseTableRow.holds Tryd.pinned (OpenSpec.ofChange Rows.fnTryToStringOnNumberSafelyCaseTableSpec) :=
  OpenClaim.holds_of_wide 3 Tryd.f3 rfl rfl rfl rfl rfl rfl rfl ⟨rfl, rfl, rfl, rfl, rfl⟩ rfl rfl rfl rfl rfl (by as_aux_lemma => kernel_rfl) Tryd.func3 (by as_aux_lemma => kernel_rfl)
    (of_decide_eq_true (by as_aux_lemma => kernel_rfl)) (by unfold Func.isWrapper; first | (rw [if_pos (by decide +kernel)]; kernel_rfl) | (rw [if_neg (by decide +kernel)]; exact ⟨rfl, rfl⟩))
    (fun os started H enc _ => lifted os started H enc)

set_option maxHeartbeats 10000000 in
theorem proved : Rows.FnTryToStringOnNumberSafelyCaseTableCardSaid :=
  Claim7.holds_tied_plain_at .later [] [.data, .data, .data] true (true, "c41aae1f21cfb97011189057a7066a0b970b062ee993c60bd10363d277754243") false
    over (fun _ h => by cases h) (by kernel_rfl) (fun _ h => by cases h) fnTryToStringOnNumberSafelyCaseTable_row_tie rfl ⟨rfl, rfl⟩ (by kernel_rfl) rfl
    (fun f' fn hf hfn => by
      obtain rfl : f' = 3 := Option.some.inj ((show Tryd.prog.funcNamed "github.com/evanw/esbuild/n011_168.FnTryToStringOnNumberSafelyCaseTable" = some 3 by kernel_rfl).symm.trans hf) |>.symm
      obtain rfl : fn = Tryd.f3 := (Option.some.inj (Tryd.func3.symm.trans hfn)).symm
      exact ⟨by kernel_rfl, fun j t ht => by
        rw [Tryd.params3] at ht
        have hj : j < 2 := by
          rcases Nat.lt_or_ge j 2 with h | h
          · exact h
          · rw [Array.getElem?_eq_none (by simpa using h)] at ht; cases ht
        have : j = 0 ∨ j = 1 := by omega
        rcases this with rfl | rfl
        · obtain rfl : 22 = t := Option.some.inj ht
          exact (show Tryd.prog.wantsStandIn 22 = false by kernel_rfl)
        · obtain rfl : 3 = t := Option.some.inj ht
          exact (show Tryd.prog.wantsStandIn 3 = false by kernel_rfl)⟩)
    (by kernel_rfl)
#print axioms proved
end Go.Proofs.YthmfjhadkmeldaaDoor.fnTryToStringOnNumberSafelyCaseTable
