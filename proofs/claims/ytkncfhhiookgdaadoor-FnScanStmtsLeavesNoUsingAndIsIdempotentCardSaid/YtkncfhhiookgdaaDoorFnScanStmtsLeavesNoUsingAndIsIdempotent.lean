/-
  After a scan no statement is a using declaration, and a second scan changes no kind and finds no using declaration.
-/
import Derived.Test.YtkncfhhiookgdaaDoorFnScanStmtsLeavesNoUsingAndIsIdempotentW
import Derived.Test.YtkncfhhiookgdaaDoorRows
import Derived.Test.YtkncfhhiookgdaaDoorCards
import Derived.Test.YtkncfhhiookgdaaDoorTie
import Derived.LaidLaws
import Derived.LaidHandle
import Derived.Handed
import Derived.ChangeVars
import Derived.SevenTiedAt
import Derived.Stop.Joined
import Derived.WalkKit
import Derived.ProofKit
import Derived.OpenShut
import Derived.ShutString
import Derived.ChangeOld
import Derived.Below
namespace Go.Proofs.YtkncfhhiookgdaaDoor.fnScanStmtsLeavesNoUsingAndIsIdempotent
open Go.Proofs.YtkncfhhiookgdaaDoor
open Go.ChangeShapes Go.WideShapes Go.ChangeAt Go.RowKit
open Go.ChangeMaps (open_string shut_string)
set_option linter.unusedVariables false

theorem own : ownKnob Tryd.prog.godebug = none := by kernel_rfl
theorem laidOut : laidOutB Tryd.prog = true := by kernel_rfl

theorem irN : Tryd.prog.globalNamed "github.com/evanw/esbuild/internal/ast.InvalidRef" = some 0 := by kernel_rfl
theorem irT : (Tryd.prog.globals[0]?).map (·.type) = some 37 := by kernel_rfl
theorem cells51 : Tryd.prog.cellsOf 37 = 2 := by kernel_rfl
theorem cells23 : Tryd.prog.cellsOf 35 = 1 := by kernel_rfl

set_option maxRecDepth 100000 in
theorem two_cells {H : Type} {enc : TypeId × Value → H} {w : World} {base : Nat} {spare : Nat → Bool} {held : Bool} {fuel : Nat} {cs : Array Value} {x : DataW H × List MemPlace} (h : DataW.trod enc Tryd.prog w base spare held fuel 37 cs.toList = some x) :
    ∃ a b : Int, cs = #[.int .u32 a, .int .u32 b] ∧ x = (.agg [.lit (.int .u32 a), .lit (.int .u32 b)], []) ∧ (Lit.int .u32 a).wf = true ∧ (Lit.int .u32 b).wf = true := by
  obtain ⟨y0, y1, m, rfl, hl, h0, h1⟩ := trod_struct2 Tryd.underlying37 h
  obtain ⟨a, e0, rfl, wa⟩ := DataW.trod_int Tryd.underlying35 h0
  obtain ⟨b, e1, rfl, wb⟩ := DataW.trod_int Tryd.underlying35 h1
  refine ⟨a, b, ?_, rfl, wa, wb⟩
  rw [cells51] at hl
  simp only [cells23] at e0 e1
  obtain ⟨l⟩ := cs
  match l, hl with
  | [c0, c1], _ => simp at e0 e1; rw [e0, e1]

set_option maxRecDepth 100000 in
theorem ir_of_laid {W : World} (h : laidMetH Tryd.prog Rows.fnScanStmtsLeavesNoUsingAndIsIdempotentRow.laid W) : IR W := by
  obtain ⟨ps, ⟨g, t, cs, fuel, p, q, hg, ht, hvar, hd, _, _⟩, _⟩ := (show laidMet Tryd.prog Rows.fnScanStmtsLeavesNoUsingAndIsIdempotentRow.laid W from h)
  obtain rfl := Option.some.inj (irN.symm.trans hg)
  obtain rfl := Option.some.inj (irT.symm.trans ht)
  obtain ⟨a, b, rfl, hx, _, _⟩ := two_cells hd
  have e := (Prod.mk.inj hx).1
  simp [Rows.laid_github_com_evanw_esbuild_internal_ast_InvalidRef] at e
  obtain ⟨rfl, rfl⟩ := e
  exact ⟨by simpa using World.var?_cell hg hvar 0, by simpa using World.var?_cell hg hvar 1⟩

/-- The settled world, the variable laid. -/
noncomputable def laidWorld (os : Os) : World :=
  let w0 := World.holding Tryd.prog os ⟨#[], #[], []⟩
  { w0 with heap := w0.heap.modify 0 fun
      | .cells _ t frozen => .cells #[.int .u32 4294967295, .int .u32 4294967295] t frozen
      | o => o }
theorem laid_met (os : Os) (args : Array Value) : laidMetH Tryd.prog Rows.fnScanStmtsLeavesNoUsingAndIsIdempotentRow.laid ((laidWorld os).forCall (fun _ _ => 0) ⟨#[], args, []⟩).memory :=
  show laidMet Tryd.prog Rows.fnScanStmtsLeavesNoUsingAndIsIdempotentRow.laid _ from laidMet_of_run (ps := [.cell 0 0, .cell 0 1]) 8 (by kernel_rfl) (by kernel_rfl) (by kernel_rfl)

set_option maxRecDepth 100000 in
theorem lifted (os : Os) (started : os.Started) (H : Type) (enc : TypeId × Value → H) :
    ReturnsInHanded {} Tryd.checked os 3 .any (fun w args => (Rows.fnScanStmtsLeavesNoUsingAndIsIdempotentSpec.pre enc Tryd.prog Tryd.f3 Rows.fnScanStmtsLeavesNoUsingAndIsIdempotentRow.domain false w args ∧ laidMetH Tryd.prog Rows.fnScanStmtsLeavesNoUsingAndIsIdempotentRow.laid w) ∧ sizedMet enc Tryd.prog Tryd.f3 (OpenSpec.ofChange Rows.fnScanStmtsLeavesNoUsingAndIsIdempotentSpec) false w args)
      (Rows.fnScanStmtsLeavesNoUsingAndIsIdempotentSpec.post enc Tryd.prog Tryd.f3 false true false false) := by
  refine returnsInHanded_of_change_and (C := Tryd.checked) (X := fun w _ => laidMetH Tryd.prog Rows.fnScanStmtsLeavesNoUsingAndIsIdempotentRow.laid w) (fun _ _ _ hh h => h.of_heap hh) own started (by kernel_rfl) Tryd.func3
    (ChangeSpec.witness_at (enc := enc) (C := Tryd.checked) (os := os) (X := fun w _ => laidMetH Tryd.prog Rows.fnScanStmtsLeavesNoUsingAndIsIdempotentRow.laid w) false (laidWorld os) #[.slice none 0 0, .slice none 0 0, .bool false, .bool false, .bool false, .bool false, .bool false] 8 rfl (by kernel_rfl) (by kernel_rfl) (by kernel_rfl) (by kernel_rfl) (by kernel_rfl) (laid_met os _)) ?_
  intro W base args ds gs before hval0 hW hcnd _ hL _
  have hval : ∀ (j : Nat) t v, Tryd.f3.params[j]? = some t → args[j]? = some v → Value.okWide Tryd.prog W .any base t v := hval0
  have hW' := hW
  obtain ⟨p, q, hA0, hV0, rfl, hfz, hnd⟩ := hW
  have hV : DataW.TrodVars enc Tryd.prog W (fun _ => true) ["github.com/evanw/esbuild/internal/ast.InvalidRef"] gs q := hV0
  have hA : DataW.TrodAll enc Tryd.prog W 0 (fun _ => true) true Tryd.f3.params.toList args.toList ds p := hA0
  rw [Tryd.params3] at hA hval
  obtain ⟨v0, vs0, d0, ds0, p0, q0, hargs, rfl, rfl, h0, r0⟩ := trodAll_cons hA
  obtain ⟨v1, vs1, d1, ds1, p1, q1, rfl, rfl, rfl, h1, r1⟩ := trodAll_cons r0
  obtain ⟨v2, vs2, d2, ds2, p2, q2, rfl, rfl, rfl, h2, r2⟩ := trodAll_cons r1
  obtain ⟨v3, vs3, d3, ds3, p3, q3, rfl, rfl, rfl, h3, r3⟩ := trodAll_cons r2
  obtain ⟨v4, vs4, d4, ds4, p4, q4, rfl, rfl, rfl, h4, r4⟩ := trodAll_cons r3
  obtain ⟨v5, vs5, d5, ds5, p5, q5, rfl, rfl, rfl, h5, r5⟩ := trodAll_cons r4
  obtain ⟨v6, vs6, d6, ds6, p6, q6, rfl, rfl, rfl, h6, r6⟩ := trodAll_cons r5
  obtain ⟨rfl, rfl, rfl⟩ := trodAll_nil r6
  obtain rfl : args = #[v0, v1, v2, v3, v4, v5, v6] := by cases args; simp_all
  have hI := ir_of_laid hL
  have zI : 0 < W.heap.size := cell_lt hI.1
  obtain ⟨g, t, cs, fuel, dv, pv, rfl, hg, ht, hvar, hd, rfl⟩ := trodVars_one hV
  obtain rfl := Option.some.inj (irN.symm.trans hg)
  obtain rfl := Option.some.inj (irT.symm.trans ht)
  obtain ⟨va, vb, rfl, hx, wa, wb⟩ := two_cells hd
  obtain ⟨rfl, rfl⟩ := Prod.mk.inj hx
  have hvars : ∀ (W' : World) (sp : Nat → Bool), Below W.heap.size W W' → DataW.TrodVars enc Tryd.prog W' sp ["github.com/evanw/esbuild/internal/ast.InvalidRef"] [.agg [.lit (.int .u32 va), .lit (.int .u32 vb)]] (MemPlace.row ⟨0, 0, none⟩ 2 ++ []) := fun W' sp hb => by
    refine trodVars_mk1 (fuel := 2) hg ht (cs := #[.int .u32 va, .int .u32 vb]) ?_ ?_
    · simp only [World.var?, hg, Option.bind_some] at hvar ⊢
      rw [hb.block 0 zI]
      exact hvar
    · exact trod_struct2_mk (cs := [.int .u32 va, .int .u32 vb]) Tryd.underlying37 (by rw [cells51]; rfl) (trod_int_mk 0 Tryd.underlying35 wa) (trod_int_mk 0 Tryd.underlying35 wb)
  obtain ⟨a0, len0, cap0, rfl⟩ := okWide_slice Tryd.underlying22 (hval 0 22 v0 rfl rfl)
  have k0 := h0
  have lt0 : ∀ x ∈ p0, x.block < W.heap.size := by obtain ⟨m, hm⟩ := k0; exact DataW.trod_lt m _ _ _ hm
  obtain ⟨z0, w0⟩ : ∃ zs, IsRow .u8 W a0 len0 cap0 zs := by
    obtain ⟨fuel, hf⟩ := h0
    rcases open_ints Tryd.underlying22 Tryd.underlying5 (by kernel_rfl) hf with ⟨hcs, _⟩ | ⟨x, l, c, zs, hcs, _, hl, hm, hz, _, hcell, hwz⟩
    · simp [Value.cells] at hcs
      obtain ⟨rfl, rfl, rfl⟩ := hcs
      exact ⟨[], .inl ⟨rfl, rfl, rfl, rfl⟩⟩
    · simp [Value.cells] at hcs
      obtain ⟨rfl, rfl, rfl⟩ := hcs
      exact ⟨zs, .inr ⟨_, rfl, hl, hm, by simpa using hz, hcell, hwz⟩⟩
  obtain ⟨a1, len1, cap1, rfl⟩ := okWide_slice Tryd.underlying23 (hval 1 23 v1 rfl rfl)
  have k1 := h1
  have lt1 : ∀ x ∈ p1, x.block < W.heap.size := by obtain ⟨m, hm⟩ := k1; exact DataW.trod_lt m _ _ _ hm
  obtain ⟨z1, w1⟩ : ∃ zs, IsRow .i32 W a1 len1 cap1 zs := by
    obtain ⟨fuel, hf⟩ := h1
    rcases open_ints Tryd.underlying23 Tryd.underlying21 (by kernel_rfl) hf with ⟨hcs, _⟩ | ⟨x, l, c, zs, hcs, _, hl, hm, hz, _, hcell, hwz⟩
    · simp [Value.cells] at hcs
      obtain ⟨rfl, rfl, rfl⟩ := hcs
      exact ⟨[], .inl ⟨rfl, rfl, rfl, rfl⟩⟩
    · simp [Value.cells] at hcs
      obtain ⟨rfl, rfl, rfl⟩ := hcs
      exact ⟨zs, .inr ⟨_, rfl, hl, hm, by simpa using hz, hcell, hwz⟩⟩
  obtain ⟨a2, rfl, rfl, rfl⟩ := open_bool Tryd.underlying4 (hval 2 4 v2 rfl rfl) h2
  obtain ⟨a3, rfl, rfl, rfl⟩ := open_bool Tryd.underlying4 (hval 3 4 v3 rfl rfl) h3
  obtain ⟨a4, rfl, rfl, rfl⟩ := open_bool Tryd.underlying4 (hval 4 4 v4 rfl rfl) h4
  obtain ⟨a5, rfl, rfl, rfl⟩ := open_bool Tryd.underlying4 (hval 5 4 v5 rfl rfl) h5
  obtain ⟨a6, rfl, rfl, rfl⟩ := open_bool Tryd.underlying4 (hval 6 4 v6 rfl rfl) h6
  clear hA0 hval0
  refine (walk a0 len0 cap0 z0 a1 len1 cap1 z1 a2 a3 a4 a5 a6 W w0 w1 hI).mono fun e W' ⟨he, bel⟩ => ?_
  subst he
  exact ⟨_, rfl, _, _, _, [], _, _, hW', trodAll_mk1 (shut_bool Tryd.underlying4 _), (trodAll_cons_mk (Below.trod laidOut (by kernel_rfl) (of_decide_eq_true (by kernel_rfl)) k0 bel lt0) (trodAll_cons_mk (Below.trod laidOut (by kernel_rfl) (of_decide_eq_true (by kernel_rfl)) k1 bel lt1) (trodAll_cons_mk (shut_bool Tryd.underlying4 _) (trodAll_cons_mk (shut_bool Tryd.underlying4 _) (trodAll_cons_mk (shut_bool Tryd.underlying4 _) (trodAll_cons_mk (shut_bool Tryd.underlying4 _) (trodAll_cons_mk (shut_bool Tryd.underlying4 _) trodAll_mk0))))))), hvars W' _ bel, bel.frame _, fun h => by cases h⟩

set_option maxHeartbeats 10000000 in
theorem over : Rows.fnScanStmtsLeavesNoUsingAndIsIdempotentRow.holds Tryd.pinned (OpenSpec.ofChange Rows.fnScanStmtsLeavesNoUsingAndIsIdempotentSpec) :=
  OpenClaim.holds_of_wide 3 Tryd.f3 rfl rfl rfl rfl rfl rfl rfl ⟨rfl, rfl, rfl, rfl, rfl⟩ rfl rfl rfl rfl rfl (by as_aux_lemma => kernel_rfl) Tryd.func3 (by as_aux_lemma => kernel_rfl)
    (of_decide_eq_true (by as_aux_lemma => kernel_rfl)) (by unfold Func.isWrapper; first | (rw [if_pos (by decide +kernel)]; kernel_rfl) | (rw [if_neg (by decide +kernel)]; exact ⟨rfl, rfl⟩))
    (fun os started H enc _ => lifted os started H enc)

set_option maxHeartbeats 10000000 in
theorem proved : Rows.FnScanStmtsLeavesNoUsingAndIsIdempotentCardSaid :=
  Claim7.holds_tied_plain_at .later [] [.data] true (true, "2a473c81ba520415add6a162f987db32d7e7b82f63961936e379d043f60d564a") true
    over (fun _ h => by cases h) (by kernel_rfl) (fun _ h => by cases h) fnScanStmtsLeavesNoUsingAndIsIdempotent_row_tie rfl ⟨rfl, rfl⟩ (by kernel_rfl) rfl
    (fun f' fn hf hfn => by
      obtain rfl : f' = 3 := Option.some.inj ((show Tryd.prog.funcNamed "github.com/evanw/esbuild/n011_263.FnScanStmtsLeavesNoUsingAndIsIdempotent" = some 3 by kernel_rfl).symm.trans hf) |>.symm
      obtain rfl : fn = Tryd.f3 := (Option.some.inj (Tryd.func3.symm.trans hfn)).symm
      exact ⟨by kernel_rfl, fun j t ht => by
        rw [Tryd.params3] at ht
        have hj : j < 7 := by
          rcases Nat.lt_or_ge j 7 with h | h
          · exact h
          · rw [Array.getElem?_eq_none (by simpa using h)] at ht; cases ht
        have : j = 0 ∨ j = 1 ∨ j = 2 ∨ j = 3 ∨ j = 4 ∨ j = 5 ∨ j = 6 := by omega
        rcases this with rfl | rfl | rfl | rfl | rfl | rfl | rfl
        · obtain rfl : 22 = t := Option.some.inj ht
          exact (show Tryd.prog.wantsStandIn 22 = false by kernel_rfl)
        · obtain rfl : 23 = t := Option.some.inj ht
          exact (show Tryd.prog.wantsStandIn 23 = false by kernel_rfl)
        · obtain rfl : 4 = t := Option.some.inj ht
          exact (show Tryd.prog.wantsStandIn 4 = false by kernel_rfl)
        · obtain rfl : 4 = t := Option.some.inj ht
          exact (show Tryd.prog.wantsStandIn 4 = false by kernel_rfl)
        · obtain rfl : 4 = t := Option.some.inj ht
          exact (show Tryd.prog.wantsStandIn 4 = false by kernel_rfl)
        · obtain rfl : 4 = t := Option.some.inj ht
          exact (show Tryd.prog.wantsStandIn 4 = false by kernel_rfl)
        · obtain rfl : 4 = t := Option.some.inj ht
          exact (show Tryd.prog.wantsStandIn 4 = false by kernel_rfl)⟩)
    (by kernel_rfl)
#print axioms proved
end Go.Proofs.YtkncfhhiookgdaaDoor.fnScanStmtsLeavesNoUsingAndIsIdempotent
