/-
  For every list of flags: where the object spread is lowered, the helper of the spread is used once for each spread behind the first value and the helper of the properties once for each run of plain properties behind a spread, and no other helper; where it is not lowered, no helper is used; the listed variable tied to the program's text.
-/
import Derived.Test.YtfmfniddnlpkmaaDoorFnObjectSpreadHelperUseCountsW
import Derived.Test.YtfmfniddnlpkmaaDoorRows
import Derived.Test.YtfmfniddnlpkmaaDoorCards
import Derived.Test.YtfmfniddnlpkmaaDoorTie
import Derived.LaidLaws
import Derived.LaidHandle
import Derived.Handed
import Derived.ChangeVars
import Derived.SevenTiedAt
import Derived.Stop.Joined
import Derived.WalkKit
import Derived.ProofKit
import Derived.OpenShut
import Derived.ShutString
import Derived.ChangeOld
import Derived.Below
import Derived.Deep.Grids
namespace Go.Proofs.YtfmfniddnlpkmaaDoor.fnObjectSpreadHelperUseCounts
open Go.Proofs.YtfmfniddnlpkmaaDoor
open Go.ChangeShapes Go.WideShapes Go.ChangeAt Go.RowKit
open Go.ChangeMaps (open_string shut_string)
set_option linter.unusedVariables false

theorem own : ownKnob Tryd.prog.godebug = none := by kernel_rfl
theorem laidOut : laidOutB Tryd.prog = true := by kernel_rfl

theorem irN : Tryd.prog.globalNamed "github.com/evanw/esbuild/internal/ast.InvalidRef" = some 0 := by kernel_rfl
theorem irT : (Tryd.prog.globals[0]?).map (·.type) = some 51 := by kernel_rfl
theorem cells51 : Tryd.prog.cellsOf 51 = 2 := by kernel_rfl
theorem cells23 : Tryd.prog.cellsOf 23 = 1 := by kernel_rfl

set_option maxRecDepth 100000 in
theorem two_cells {H : Type} {enc : TypeId × Value → H} {w : World} {base : Nat} {spare : Nat → Bool} {held : Bool} {fuel : Nat} {cs : Array Value} {x : DataW H × List MemPlace} (h : DataW.trod enc Tryd.prog w base spare held fuel 51 cs.toList = some x) :
    ∃ a b : Int, cs = #[.int .u32 a, .int .u32 b] ∧ x = (.agg [.lit (.int .u32 a), .lit (.int .u32 b)], []) ∧ (Lit.int .u32 a).wf = true ∧ (Lit.int .u32 b).wf = true := by
  obtain ⟨y0, y1, m, rfl, hl, h0, h1⟩ := trod_struct2 Tryd.underlying51 h
  obtain ⟨a, e0, rfl, wa⟩ := DataW.trod_int Tryd.underlying23 h0
  obtain ⟨b, e1, rfl, wb⟩ := DataW.trod_int Tryd.underlying23 h1
  refine ⟨a, b, ?_, rfl, wa, wb⟩
  rw [cells51] at hl
  simp only [cells23] at e0 e1
  obtain ⟨l⟩ := cs
  match l, hl with
  | [c0, c1], _ => simp at e0 e1; rw [e0, e1]

set_option maxRecDepth 100000 in
theorem ir_of_laid {W : World} (h : laidMetH Tryd.prog Rows.fnObjectSpreadHelperUseCountsRow.laid W) : IR W := by
  obtain ⟨ps, ⟨g, t, cs, fuel, p, q, hg, ht, hvar, hd, _, _⟩, _⟩ := (show laidMet Tryd.prog Rows.fnObjectSpreadHelperUseCountsRow.laid W from h)
  obtain rfl := Option.some.inj (irN.symm.trans hg)
  obtain rfl := Option.some.inj (irT.symm.trans ht)
  obtain ⟨a, b, rfl, hx, _, _⟩ := two_cells hd
  have e := (Prod.mk.inj hx).1
  simp [Rows.laid_github_com_evanw_esbuild_internal_ast_InvalidRef] at e
  obtain ⟨rfl, rfl⟩ := e
  exact ⟨by simpa using World.var?_cell hg hvar 0, by simpa using World.var?_cell hg hvar 1⟩

/-- The settled world, the variable laid. -/
noncomputable def laidWorld (os : Os) : World :=
  let w0 := World.holding Tryd.prog os ⟨#[], #[], []⟩
  { w0 with heap := w0.heap.modify 0 fun
      | .cells _ t frozen => .cells #[.int .u32 4294967295, .int .u32 4294967295] t frozen
      | o => o }
theorem laid_met (os : Os) (args : Array Value) : laidMetH Tryd.prog Rows.fnObjectSpreadHelperUseCountsRow.laid ((laidWorld os).forCall (fun _ _ => 0) ⟨#[], args, []⟩).memory :=
  show laidMet Tryd.prog Rows.fnObjectSpreadHelperUseCountsRow.laid _ from laidMet_of_run (ps := [.cell 0 0, .cell 0 1]) 8 (by kernel_rfl) (by kernel_rfl) (by kernel_rfl)

set_option maxRecDepth 100000 in
theorem lifted (os : Os) (started : os.Started) (H : Type) (enc : TypeId × Value → H) :
    ReturnsInHanded {} Tryd.checked os 5 .any (fun w args => (Rows.fnObjectSpreadHelperUseCountsSpec.pre enc Tryd.prog Tryd.f5 Rows.fnObjectSpreadHelperUseCountsRow.domain false w args ∧ laidMetH Tryd.prog Rows.fnObjectSpreadHelperUseCountsRow.laid w) ∧ sizedMet enc Tryd.prog Tryd.f5 (OpenSpec.ofChange Rows.fnObjectSpreadHelperUseCountsSpec) false w args)
      (Rows.fnObjectSpreadHelperUseCountsSpec.post enc Tryd.prog Tryd.f5 false true false false) := by
  refine returnsInHanded_of_change_and (C := Tryd.checked) (X := fun w _ => laidMetH Tryd.prog Rows.fnObjectSpreadHelperUseCountsRow.laid w) (fun _ _ _ hh h => h.of_heap hh) own started (by kernel_rfl) Tryd.func5
    (ChangeSpec.witness_at (enc := enc) (C := Tryd.checked) (os := os) (X := fun w _ => laidMetH Tryd.prog Rows.fnObjectSpreadHelperUseCountsRow.laid w) false (laidWorld os) #[.int .i32 0, .bool false, .slice none 0 0, .bool false] 8 rfl (by kernel_rfl) (by kernel_rfl) (by kernel_rfl) (by kernel_rfl) (by kernel_rfl) (laid_met os _)) ?_
  intro W base args ds gs before hval0 hW hcnd _ hL _
  have hval : ∀ (j : Nat) t v, Tryd.f5.params[j]? = some t → args[j]? = some v → Value.okWide Tryd.prog W .any base t v := hval0
  have hW' := hW
  obtain ⟨p, q, hA0, hV0, rfl, hfz, hnd⟩ := hW
  have hV : DataW.TrodVars enc Tryd.prog W (fun _ => true) ["github.com/evanw/esbuild/internal/ast.InvalidRef"] gs q := hV0
  have hA : DataW.TrodAll enc Tryd.prog W 0 (fun _ => true) true Tryd.f5.params.toList args.toList ds p := hA0
  rw [Tryd.params5] at hA hval
  obtain ⟨v0, vs0, d0, ds0, p0, q0, hargs, rfl, rfl, h0, r0⟩ := trodAll_cons hA
  obtain ⟨v1, vs1, d1, ds1, p1, q1, rfl, rfl, rfl, h1, r1⟩ := trodAll_cons r0
  obtain ⟨v2, vs2, d2, ds2, p2, q2, rfl, rfl, rfl, h2, r2⟩ := trodAll_cons r1
  obtain ⟨v3, vs3, d3, ds3, p3, q3, rfl, rfl, rfl, h3, r3⟩ := trodAll_cons r2
  obtain ⟨rfl, rfl, rfl⟩ := trodAll_nil r3
  obtain rfl : args = #[v0, v1, v2, v3] := by cases args; simp_all
  have hI := ir_of_laid hL
  have zI : 0 < W.heap.size := cell_lt hI.1
  obtain ⟨g, t, cs, fuel, dv, pv, rfl, hg, ht, hvar, hd, rfl⟩ := trodVars_one hV
  obtain rfl := Option.some.inj (irN.symm.trans hg)
  obtain rfl := Option.some.inj (irT.symm.trans ht)
  obtain ⟨va, vb, rfl, hx, wa, wb⟩ := two_cells hd
  obtain ⟨rfl, rfl⟩ := Prod.mk.inj hx
  have hvars : ∀ (W' : World) (sp : Nat → Bool), Below W.heap.size W W' → DataW.TrodVars enc Tryd.prog W' sp ["github.com/evanw/esbuild/internal/ast.InvalidRef"] [.agg [.lit (.int .u32 va), .lit (.int .u32 vb)]] (MemPlace.row ⟨0, 0, none⟩ 2 ++ []) := fun W' sp hb => by
    refine trodVars_mk1 (fuel := 2) hg ht (cs := #[.int .u32 va, .int .u32 vb]) ?_ ?_
    · simp only [World.var?, hg, Option.bind_some] at hvar ⊢
      rw [hb.block 0 zI]
      exact hvar
    · exact trod_struct2_mk (cs := [.int .u32 va, .int .u32 vb]) Tryd.underlying51 (by rw [cells51]; rfl) (trod_int_mk 0 Tryd.underlying23 wa) (trod_int_mk 0 Tryd.underlying23 wb)
  obtain ⟨a0, rfl, rfl, rfl, w0⟩ := open_int Tryd.underlying21 (hval 0 21 v0 rfl rfl) h0
  obtain ⟨a1, rfl, rfl, rfl⟩ := open_bool Tryd.underlying4 (hval 1 4 v1 rfl rfl) h1
  obtain ⟨a2, len2, cap2, rfl⟩ := okWide_slice Tryd.underlying60 (hval 2 60 v2 rfl rfl)
  have k2 := h2
  have lt2 : ∀ x ∈ p2, x.block < W.heap.size := by obtain ⟨m, hm⟩ := k2; exact DataW.trod_lt m _ _ _ hm
  obtain ⟨z2, w2⟩ : ∃ zs, IsBools W a2 len2 cap2 zs := by
    obtain ⟨fuel, hf⟩ := h2
    rcases Deep.open_bools Tryd.underlying60 Tryd.underlying4 (by kernel_rfl) hf with ⟨hcs, _⟩ | ⟨x, l, c, B, hcs, _, hl, hm, _, hcell⟩
    · simp [Value.cells] at hcs
      obtain ⟨rfl, rfl, rfl⟩ := hcs
      exact ⟨fun _ => false, .inl ⟨rfl, rfl, rfl⟩⟩
    · simp [Value.cells] at hcs
      obtain ⟨rfl, rfl, rfl⟩ := hcs
      exact ⟨B, .inr ⟨_, rfl, hl, hm, hcell⟩⟩
  obtain ⟨a3, rfl, rfl, rfl⟩ := open_bool Tryd.underlying4 (hval 3 4 v3 rfl rfl) h3
  clear hA0 hval0
  refine (walk a0 a1 a2 len2 cap2 z2 a3 W w0 w2 hI).mono fun e W' ⟨he, bel⟩ => ?_
  subst he
  exact ⟨_, rfl, _, _, _, [], _, _, hW', trodAll_mk1 (shut_bool Tryd.underlying4 _), (trodAll_cons_mk (shut_int Tryd.underlying21 w0) (trodAll_cons_mk (shut_bool Tryd.underlying4 _) (trodAll_cons_mk (Below.trod laidOut (by kernel_rfl) (of_decide_eq_true (by kernel_rfl)) k2 bel lt2) (trodAll_cons_mk (shut_bool Tryd.underlying4 _) trodAll_mk0)))), hvars W' _ bel, bel.frame _, fun h => by cases h⟩

set_option maxHeartbeats 10000000 in
theorem over : Rows.fnObjectSpreadHelperUseCountsRow.holds Tryd.pinned (OpenSpec.ofChange Rows.fnObjectSpreadHelperUseCountsSpec) :=
  OpenClaim.holds_of_wide 5 Tryd.f5 rfl rfl rfl rfl rfl rfl rfl ⟨rfl, rfl, rfl, rfl, rfl⟩ rfl rfl rfl rfl rfl (by as_aux_lemma => kernel_rfl) Tryd.func5 (by as_aux_lemma => kernel_rfl)
    (of_decide_eq_true (by as_aux_lemma => kernel_rfl)) (by unfold Func.isWrapper; first | (rw [if_pos (by decide +kernel)]; kernel_rfl) | (rw [if_neg (by decide +kernel)]; exact ⟨rfl, rfl⟩))
    (fun os started H enc _ => lifted os started H enc)

set_option maxHeartbeats 10000000 in
theorem proved : Rows.FnObjectSpreadHelperUseCountsCardSaid :=
  Claim7.holds_tied_plain_at .later [] [.data] true (true, "54330880f41c984e5eb4c94d2d98769a6b277dd451adef127c67cff892068796") true
    over (fun _ h => by cases h) (by kernel_rfl) (fun _ h => by cases h) fnObjectSpreadHelperUseCounts_row_tie rfl ⟨rfl, rfl⟩ (by kernel_rfl) rfl
    (fun f' fn hf hfn => by
      obtain rfl : f' = 5 := Option.some.inj ((show Tryd.prog.funcNamed "github.com/evanw/esbuild/n011_249.FnObjectSpreadHelperUseCounts" = some 5 by kernel_rfl).symm.trans hf) |>.symm
      obtain rfl : fn = Tryd.f5 := (Option.some.inj (Tryd.func5.symm.trans hfn)).symm
      exact ⟨by kernel_rfl, fun j t ht => by
        rw [Tryd.params5] at ht
        have hj : j < 4 := by
          rcases Nat.lt_or_ge j 4 with h | h
          · exact h
          · rw [Array.getElem?_eq_none (by simpa using h)] at ht; cases ht
        have : j = 0 ∨ j = 1 ∨ j = 2 ∨ j = 3 := by omega
        rcases this with rfl | rfl | rfl | rfl
        · obtain rfl : 21 = t := Option.some.inj ht
          exact (show Tryd.prog.wantsStandIn 21 = false by kernel_rfl)
        · obtain rfl : 4 = t := Option.some.inj ht
          exact (show Tryd.prog.wantsStandIn 4 = false by kernel_rfl)
        · obtain rfl : 60 = t := Option.some.inj ht
          exact (show Tryd.prog.wantsStandIn 60 = false by kernel_rfl)
        · obtain rfl : 4 = t := Option.some.inj ht
          exact (show Tryd.prog.wantsStandIn 4 = false by kernel_rfl)⟩)
    (by kernel_rfl)
#print axioms proved
end Go.Proofs.YtfmfniddnlpkmaaDoor.fnObjectSpreadHelperUseCounts
