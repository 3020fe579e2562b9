/-
  For any two ranges, logging both deferred errors in one call gives the same messages (kind, text and count of notes, in order) as logging the one and then the other on one log; no condition.
-/
import Derived.Test.YtfbjlgjlbndmkadDoorFnLogArrowArgErrorsSplitW
import Derived.Test.YtfbjlgjlbndmkadDoorRows
import Derived.Test.YtfbjlgjlbndmkadDoorCards
import Derived.Test.YtfbjlgjlbndmkadDoorTie
import Derived.LaidLaws
import Derived.LaidHandle
import Derived.Handed
import Derived.ChangeVars
import Derived.SevenTiedAt
import Derived.Stop.Joined
import Derived.LaidMore
import Derived.Lay
import Derived.WalkKit
import Derived.ProofKit
import Derived.OpenShut
import Derived.ShutString
import Derived.ChangeOld
import Derived.Below
namespace Go.Proofs.YtfbjlgjlbndmkadDoor.fnLogArrowArgErrorsSplit
open Go.Proofs.YtfbjlgjlbndmkadDoor
open Go.ChangeShapes Go.WideShapes Go.ChangeAt Go.RowKit
open Go.ChangeMaps (open_string shut_string)
set_option linter.unusedVariables false

theorem own : ownKnob Tryd.prog.godebug = none := by kernel_rfl
theorem laidOut : laidOutB Tryd.prog = true := by kernel_rfl

set_option maxRecDepth 100000 in
theorem lifted (os : Os) (started : os.Started) (H : Type) (enc : TypeId × Value → H) :
    ReturnsInHanded {} Tryd.checked os 3 .any (fun w args => (Rows.fnLogArrowArgErrorsSplitSpec.pre enc Tryd.prog Tryd.f3 Rows.fnLogArrowArgErrorsSplitRow.domain false w args ∧ laidMetH Tryd.prog Rows.fnLogArrowArgErrorsSplitRow.laid w) ∧ sizedMet enc Tryd.prog Tryd.f3 (OpenSpec.ofChange Rows.fnLogArrowArgErrorsSplitSpec) false w args)
      (Rows.fnLogArrowArgErrorsSplitSpec.post enc Tryd.prog Tryd.f3 false true false false) := by
  refine returnsInHanded_of_change_and (C := Tryd.checked) (X := fun w _ => laidMetH Tryd.prog Rows.fnLogArrowArgErrorsSplitRow.laid w) (fun _ _ _ hh h => h.of_heap hh) own started (by kernel_rfl) Tryd.func3
    (ChangeSpec.witness_shaped (enc := enc) (C := Tryd.checked) (os := os) (X := fun w _ => laidMetH Tryd.prog Rows.fnLogArrowArgErrorsSplitRow.laid w) false (World.laidAll Tryd.prog os Rows.fnLogArrowArgErrorsSplitRow.laid) #[.int .i32 0, .int .i32 0, .int .i32 0, .int .i32 0] 8 (World.laidAll_os _ _ _)
      (World.shaped_of_ZipB (by kernel_rfl) (by kernel_rfl)) (by kernel_rfl) (by kernel_rfl) (by kernel_rfl)
      (by rw [MakeChecks.laidMetH_plain _ _ _ (by kernel_rfl)]; exact laidMet_laidAll _ (by kernel_rfl) (by kernel_rfl))) ?_
  intro W base args ds gs before hval0 hW hcnd _ hL _
  have hval : ∀ (j : Nat) t v, Tryd.f3.params[j]? = some t → args[j]? = some v → Value.okWide Tryd.prog W .any base t v := hval0
  have hW' := hW
  obtain ⟨p, q, hA0, hV, rfl, hfz, hnd⟩ := hW
  have hA : DataW.TrodAll enc Tryd.prog W 0 (fun _ => true) true Tryd.f3.params.toList args.toList ds p := hA0
  rw [Tryd.params3] at hA hval
  obtain ⟨v0, vs0, d0, ds0, p0, q0, hargs, rfl, rfl, h0, r0⟩ := trodAll_cons hA
  obtain ⟨v1, vs1, d1, ds1, p1, q1, rfl, rfl, rfl, h1, r1⟩ := trodAll_cons r0
  obtain ⟨v2, vs2, d2, ds2, p2, q2, rfl, rfl, rfl, h2, r2⟩ := trodAll_cons r1
  obtain ⟨v3, vs3, d3, ds3, p3, q3, rfl, rfl, rfl, h3, r3⟩ := trodAll_cons r2
  obtain ⟨rfl, rfl, rfl⟩ := trodAll_nil r3
  obtain rfl : args = #[v0, v1, v2, v3] := by cases args; simp_all
  obtain ⟨rfl, rfl⟩ := trodVars_none hV
  obtain ⟨a0, rfl, rfl, rfl, w0⟩ := open_int Tryd.underlying21 (hval 0 21 v0 rfl rfl) h0
  obtain ⟨a1, rfl, rfl, rfl, w1⟩ := open_int Tryd.underlying21 (hval 1 21 v1 rfl rfl) h1
  obtain ⟨a2, rfl, rfl, rfl, w2⟩ := open_int Tryd.underlying21 (hval 2 21 v2 rfl rfl) h2
  obtain ⟨a3, rfl, rfl, rfl, w3⟩ := open_int Tryd.underlying21 (hval 3 21 v3 rfl rfl) h3
  clear hA0 hval0
  refine (walk a0 a1 a2 a3 W).mono fun e W' ⟨he, bel⟩ => ?_
  subst he
  exact ⟨_, rfl, _, _, _, [], _, [], hW', trodAll_mk1 (shut_bool Tryd.underlying4 _), (trodAll_cons_mk (shut_int Tryd.underlying21 w0) (trodAll_cons_mk (shut_int Tryd.underlying21 w1) (trodAll_cons_mk (shut_int Tryd.underlying21 w2) (trodAll_cons_mk (shut_int Tryd.underlying21 w3) trodAll_mk0)))), rfl, bel.frame _, fun h => by cases h⟩

set_option maxHeartbeats 10000000 in
theorem over : Rows.fnLogArrowArgErrorsSplitRow.holds Tryd.pinned (OpenSpec.ofChange Rows.fnLogArrowArgErrorsSplitSpec) :=
  OpenClaim.holds_of_wide 3 Tryd.f3 rfl rfl rfl rfl rfl rfl rfl ⟨rfl, rfl, rfl, rfl, rfl⟩ rfl rfl rfl rfl rfl (by as_aux_lemma => kernel_rfl) Tryd.func3 (by as_aux_lemma => kernel_rfl)
    (of_decide_eq_true (by as_aux_lemma => kernel_rfl)) (by unfold Func.isWrapper; first | (rw [if_pos (by decide +kernel)]; kernel_rfl) | (rw [if_neg (by decide +kernel)]; exact ⟨rfl, rfl⟩))
    (fun os started H enc _ => lifted os started H enc)

set_option maxHeartbeats 10000000 in
theorem proved : Rows.FnLogArrowArgErrorsSplitCardSaid :=
  Claim7.holds_tied_plain_at .later [] [.data, .pinned] true (true, "b94555c64a902b466a60516b669d4efdf34c6975f9a884d8fd13b1c1b15e1739") false
    over (fun _ h => by cases h) (by kernel_rfl) (fun _ h => by cases h) fnLogArrowArgErrorsSplit_row_tie rfl ⟨rfl, rfl⟩ (by kernel_rfl) rfl
    (fun f' fn hf hfn => by
      obtain rfl : f' = 3 := Option.some.inj ((show Tryd.prog.funcNamed "github.com/evanw/esbuild/n011_114.FnLogArrowArgErrorsSplit" = some 3 by kernel_rfl).symm.trans hf) |>.symm
      obtain rfl : fn = Tryd.f3 := (Option.some.inj (Tryd.func3.symm.trans hfn)).symm
      exact ⟨by kernel_rfl, fun j t ht => by
        rw [Tryd.params3] at ht
        have hj : j < 4 := by
          rcases Nat.lt_or_ge j 4 with h | h
          · exact h
          · rw [Array.getElem?_eq_none (by simpa using h)] at ht; cases ht
        have : j = 0 ∨ j = 1 ∨ j = 2 ∨ j = 3 := by omega
        rcases this with rfl | rfl | rfl | rfl
        · obtain rfl : 21 = t := Option.some.inj ht
          exact (show Tryd.prog.wantsStandIn 21 = false by kernel_rfl)
        · obtain rfl : 21 = t := Option.some.inj ht
          exact (show Tryd.prog.wantsStandIn 21 = false by kernel_rfl)
        · obtain rfl : 21 = t := Option.some.inj ht
          exact (show Tryd.prog.wantsStandIn 21 = false by kernel_rfl)
        · obtain rfl : 21 = t := Option.some.inj ht
          exact (show Tryd.prog.wantsStandIn 21 = false by kernel_rfl)⟩)
    (by kernel_rfl)
#print axioms proved
end Go.Proofs.YtfbjlgjlbndmkadDoor.fnLogArrowArgErrorsSplit
