/-
  The hash of a case value succeeds on every leaf but the array, is blind to an inlined-enum wrapper, and is the same for any two leaves that the equality table calls equal, a pair of zero numbers apart.
-/
import Derived.Test.YtjngpnijogfmdabFnDuplicateCaseHashAgreesWithEqualsW
import Derived.Test.YtjngpnijogfmdabRows
import Derived.WalkKit
import Derived.ProofKit
import Derived.OpenShut
import Derived.ShutString
import Derived.ChangeOld
import Derived.Below
namespace Go.Proofs.Ytjngpnijogfmdab.fnDuplicateCaseHashAgreesWithEquals
open Go.ChangeShapes Go.WideShapes Go.ChangeAt Go.RowKit
open Go.ChangeMaps (open_string shut_string)
set_option linter.unusedVariables false

theorem own : ownKnob Try.prog.godebug = none := by kernel_rfl
theorem laidOut : laidOutB Try.prog = true := by kernel_rfl

set_option maxRecDepth 100000 in
theorem lifted (os : Os) (started : os.Started) (H : Type) (enc : TypeId × Value → H) :
    ReturnsInHanded {} Try.checked os 3 .any (Rows.fnDuplicateCaseHashAgreesWithEqualsSpec.pre6 enc Try.prog Try.f3 Rows.fnDuplicateCaseHashAgreesWithEqualsRow.domain false) (Rows.fnDuplicateCaseHashAgreesWithEqualsSpec.post enc Try.prog Try.f3 false true false false) := by
  refine returnsInHanded_of_change (C := Try.checked) own started (by kernel_rfl) Try.func3
    (ChangeSpec.witness6 (enc := enc) (C := Try.checked) false ⟨#[], #[.int .u8 0, .int .u8 0, (.float .f64 0), (.float .f64 0), .bool false, .bool false, .slice none 0 0, .slice none 0 0, .int .u32 0, .int .u32 0, .bool false, .bool false], []⟩ 8 (by kernel_rfl) (by kernel_rfl) (by kernel_rfl) (by kernel_rfl)) ?_
  intro W base args ds gs before hval0 hW hcnd _
  have hval : ∀ (j : Nat) t v, Try.f3.params[j]? = some t → args[j]? = some v → Value.okWide Try.prog W .any base t v := hval0
  have hW' := hW
  obtain ⟨p, q, hA0, hV, rfl, hfz, hnd⟩ := hW
  have hA : DataW.TrodAll enc Try.prog W 0 (fun _ => true) true Try.f3.params.toList args.toList ds p := hA0
  rw [Try.params3] at hA hval
  obtain ⟨v0, vs0, d0, ds0, p0, q0, hargs, rfl, rfl, h0, r0⟩ := trodAll_cons hA
  obtain ⟨v1, vs1, d1, ds1, p1, q1, rfl, rfl, rfl, h1, r1⟩ := trodAll_cons r0
  obtain ⟨v2, vs2, d2, ds2, p2, q2, rfl, rfl, rfl, h2, r2⟩ := trodAll_cons r1
  obtain ⟨v3, vs3, d3, ds3, p3, q3, rfl, rfl, rfl, h3, r3⟩ := trodAll_cons r2
  obtain ⟨v4, vs4, d4, ds4, p4, q4, rfl, rfl, rfl, h4, r4⟩ := trodAll_cons r3
  obtain ⟨v5, vs5, d5, ds5, p5, q5, rfl, rfl, rfl, h5, r5⟩ := trodAll_cons r4
  obtain ⟨v6, vs6, d6, ds6, p6, q6, rfl, rfl, rfl, h6, r6⟩ := trodAll_cons r5
  obtain ⟨v7, vs7, d7, ds7, p7, q7, rfl, rfl, rfl, h7, r7⟩ := trodAll_cons r6
  obtain ⟨v8, vs8, d8, ds8, p8, q8, rfl, rfl, rfl, h8, r8⟩ := trodAll_cons r7
  obtain ⟨v9, vs9, d9, ds9, p9, q9, rfl, rfl, rfl, h9, r9⟩ := trodAll_cons r8
  obtain ⟨v10, vs10, d10, ds10, p10, q10, rfl, rfl, rfl, h10, r10⟩ := trodAll_cons r9
  obtain ⟨v11, vs11, d11, ds11, p11, q11, rfl, rfl, rfl, h11, r11⟩ := trodAll_cons r10
  obtain ⟨rfl, rfl, rfl⟩ := trodAll_nil r11
  obtain rfl : args = #[v0, v1, v2, v3, v4, v5, v6, v7, v8, v9, v10, v11] := by cases args; simp_all
  obtain ⟨rfl, rfl⟩ := trodVars_none hV
  obtain ⟨a0, rfl, rfl, rfl, w0⟩ := open_int Try.underlying5 (hval 0 5 v0 rfl rfl) h0
  obtain ⟨a1, rfl, rfl, rfl, w1⟩ := open_int Try.underlying5 (hval 1 5 v1 rfl rfl) h1
  have k2 := h2
  have lt2 : ∀ x ∈ p2, x.block < W.heap.size := by obtain ⟨m, hm⟩ := k2; exact DataW.trod_lt m _ _ _ hm
  obtain ⟨f2, rfl, wf2⟩ := float_open Try.underlying22 (hval 2 22 v2 rfl rfl) h2
  have k3 := h3
  have lt3 : ∀ x ∈ p3, x.block < W.heap.size := by obtain ⟨m, hm⟩ := k3; exact DataW.trod_lt m _ _ _ hm
  obtain ⟨f3, rfl, wf3⟩ := float_open Try.underlying22 (hval 3 22 v3 rfl rfl) h3
  obtain ⟨a4, rfl, rfl, rfl⟩ := open_bool Try.underlying4 (hval 4 4 v4 rfl rfl) h4
  obtain ⟨a5, rfl, rfl, rfl⟩ := open_bool Try.underlying4 (hval 5 4 v5 rfl rfl) h5
  obtain ⟨a6, len6, cap6, rfl⟩ := okWide_slice Try.underlying23 (hval 6 23 v6 rfl rfl)
  have k6 := h6
  have lt6 : ∀ x ∈ p6, x.block < W.heap.size := by obtain ⟨m, hm⟩ := k6; exact DataW.trod_lt m _ _ _ hm
  obtain ⟨z6, w6⟩ : ∃ zs, IsRow .u16 W a6 len6 cap6 zs := by
    obtain ⟨fuel, hf⟩ := h6
    rcases open_ints Try.underlying23 Try.underlying38 (by kernel_rfl) hf with ⟨hcs, _⟩ | ⟨x, l, c, zs, hcs, _, hl, hm, hz, _, hcell, hwz⟩
    · simp [Value.cells] at hcs
      obtain ⟨rfl, rfl, rfl⟩ := hcs
      exact ⟨[], .inl ⟨rfl, rfl, rfl, rfl⟩⟩
    · simp [Value.cells] at hcs
      obtain ⟨rfl, rfl, rfl⟩ := hcs
      exact ⟨zs, .inr ⟨_, rfl, hl, hm, by simpa using hz, hcell, hwz⟩⟩
  obtain ⟨a7, len7, cap7, rfl⟩ := okWide_slice Try.underlying23 (hval 7 23 v7 rfl rfl)
  have k7 := h7
  have lt7 : ∀ x ∈ p7, x.block < W.heap.size := by obtain ⟨m, hm⟩ := k7; exact DataW.trod_lt m _ _ _ hm
  obtain ⟨z7, w7⟩ : ∃ zs, IsRow .u16 W a7 len7 cap7 zs := by
    obtain ⟨fuel, hf⟩ := h7
    rcases open_ints Try.underlying23 Try.underlying38 (by kernel_rfl) hf with ⟨hcs, _⟩ | ⟨x, l, c, zs, hcs, _, hl, hm, hz, _, hcell, hwz⟩
    · simp [Value.cells] at hcs
      obtain ⟨rfl, rfl, rfl⟩ := hcs
      exact ⟨[], .inl ⟨rfl, rfl, rfl, rfl⟩⟩
    · simp [Value.cells] at hcs
      obtain ⟨rfl, rfl, rfl⟩ := hcs
      exact ⟨zs, .inr ⟨_, rfl, hl, hm, by simpa using hz, hcell, hwz⟩⟩
  obtain ⟨a8, rfl, rfl, rfl, w8⟩ := open_int Try.underlying24 (hval 8 24 v8 rfl rfl) h8
  obtain ⟨a9, rfl, rfl, rfl, w9⟩ := open_int Try.underlying24 (hval 9 24 v9 rfl rfl) h9
  obtain ⟨a10, rfl, rfl, rfl⟩ := open_bool Try.underlying4 (hval 10 4 v10 rfl rfl) h10
  obtain ⟨a11, rfl, rfl, rfl⟩ := open_bool Try.underlying4 (hval 11 4 v11 rfl rfl) h11
  clear hA0 hval0
  refine (walk a0 a1 f2 f3 a4 a5 a6 len6 cap6 z6 a7 len7 cap7 z7 a8 a9 a10 a11 W w0 w1 wf2 wf3 w6 w7 w8 w9).mono fun e W' ⟨he, bel⟩ => ?_
  subst he
  exact ⟨_, rfl, _, _, _, [], _, [], hW', trodAll_mk1 (shut_bool Try.underlying4 _), (trodAll_cons_mk (shut_int Try.underlying5 w0) (trodAll_cons_mk (shut_int Try.underlying5 w1) (trodAll_cons_mk (Below.trod laidOut (by kernel_rfl) (of_decide_eq_true (by kernel_rfl)) k2 bel lt2) (trodAll_cons_mk (Below.trod laidOut (by kernel_rfl) (of_decide_eq_true (by kernel_rfl)) k3 bel lt3) (trodAll_cons_mk (shut_bool Try.underlying4 _) (trodAll_cons_mk (shut_bool Try.underlying4 _) (trodAll_cons_mk (Below.trod laidOut (by kernel_rfl) (of_decide_eq_true (by kernel_rfl)) k6 bel lt6) (trodAll_cons_mk (Below.trod laidOut (by kernel_rfl) (of_decide_eq_true (by kernel_rfl)) k7 bel lt7) (trodAll_cons_mk (shut_int Try.underlying24 w8) (trodAll_cons_mk (shut_int Try.underlying24 w9) (trodAll_cons_mk (shut_bool Try.underlying4 _) (trodAll_cons_mk (shut_bool Try.underlying4 _) trodAll_mk0)))))))))))), rfl, bel.frame _, fun h => by cases h⟩

set_option maxHeartbeats 10000000 in
theorem over : Rows.fnDuplicateCaseHashAgreesWithEqualsRow.holds Try.pinned (OpenSpec.ofChange Rows.fnDuplicateCaseHashAgreesWithEqualsSpec) :=
  OpenClaim.holds_of_wide 3 Try.f3 rfl rfl rfl rfl rfl rfl rfl ⟨rfl, rfl, rfl, rfl, rfl⟩ rfl rfl rfl rfl rfl (by as_aux_lemma => kernel_rfl) Try.func3 (by as_aux_lemma => kernel_rfl)
    (of_decide_eq_true (by as_aux_lemma => kernel_rfl)) (by unfold Func.isWrapper; first | (rw [if_pos (by decide +kernel)]; kernel_rfl) | (rw [if_neg (by decide +kernel)]; exact ⟨rfl, rfl⟩))
    (fun os started H enc _ => lifted os started H enc)

theorem proved : Rows.FnDuplicateCaseHashAgreesWithEqualsSaid := over
#print axioms proved
end Go.Proofs.Ytjngpnijogfmdab.fnDuplicateCaseHashAgreesWithEquals
