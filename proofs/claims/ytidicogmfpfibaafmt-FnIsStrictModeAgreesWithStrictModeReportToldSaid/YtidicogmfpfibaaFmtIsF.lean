import Derived.Test.YtidicogmfpfibaaFmtKit
import Derived.Test.YtidicogmfpfibaaFmtIsD
import Derived.Test.YtidicogmfpfibaaFmtBig
namespace Go.Proofs.YtidicogmfpfibaaFmt
open Go.ChangeShapes Go.WideShapes Go.ChangeAt Go.RowKit
set_option linter.unusedVariables false
set_option maxRecDepth 100000
set_option maxHeartbeats 2000000

open Go.MuLone
noncomputable def A179 (kd : Int) (w : World) : Array Value := match (Instr.build 179 #[(12, .int .u8 kd)]).run Tryf.prog w with | .ok (.agg c) _ => c | _ => #[]
theorem build179k (kd : Int) (w : World) : (Instr.build 179 #[(12, .int .u8 kd)]).run Tryf.prog w = .ok (.agg (A179 kd w)) w := by kernel_rfl
theorem build166k (w : World) : (Instr.build 166 #[]).run Tryf.prog w = .ok (.agg PZ166) w := by kernel_rfl
theorem build181k (w : World) : (Instr.build 181 #[]).run Tryf.prog w = .ok (.agg PZ181) w := by kernel_rfl
theorem at179 (kd : Int) (w : World) : At (A179 kd w) [(6, .int .i32 0), (14, .int .u8 kd)] := by
  repeat (refine List.forall_mem_cons.2 ⟨by kernel_rfl, ?_⟩)
  exact List.forall_mem_nil _
theorem at181 : At PZ181 tsL := by
  unfold tsL
  repeat (refine List.forall_mem_cons.2 ⟨by kernel_rfl, ?_⟩)
  exact List.forall_mem_nil _
/-- The cells of the parser that the law makes. -/
noncomputable def parC (k mu he ms sc ts : Nat) (fm : Int) : Array Value := (((putL (putL PZ166 51 (logV k mu he ms).toList) 67 trkV.toList).setIfInBounds 104 (.pointer (some ⟨sc, 0, none⟩))).setIfInBounds 13 (.pointer (some ⟨ts, 0, none⟩))).setIfInBounds 36 (.int .u8 fm)
theorem atPar (k mu he ms sc ts : Nat) (fm : Int) : At (parC k mu he ms sc ts fm) (parL k mu he ms sc ts fm) := by
  unfold parL
  repeat (refine List.forall_mem_cons.2 ⟨by kernel_rfl, ?_⟩)
  exact List.forall_mem_nil _
theorem atTrk (k mu he ms sc ts : Nat) (fm : Int) : At (parC k mu he ms sc ts fm) (trkL 67) := by
  unfold trkL
  repeat (refine List.forall_mem_cons.2 ⟨by kernel_rfl, ?_⟩)
  exact List.forall_mem_nil _
theorem at75 (k mu he ms sc ts : Nat) (fm : Int) : (parC k mu he ms sc ts fm)[75]? = some (.bool false) := by kernel_rfl
noncomputable def rg13 : List Oper := rgAt Tryf.f13 3
theorem ok13_0 : ((List.range 9).all fun i => stepOk rg13.toArray 10 (0 + i)) = true := by kernel_rfl
theorem ok13 (j : Nat) (h : j < 9) : stepOk rg13.toArray 10 j = true := by
  exact chunk ok13_0 j (by omega) (by omega)
theorem sel13 : Region.noSelect rg13.toArray = true := by kernel_rfl
def S13 (q o t b : Nat) (cs : Array Value) (W : World) : Prop := RowAt W q cs t ∧ ∃ ds, RowAt W b ds 95 ∧ ds.size = 10
theorem range2 {w : World} {q o t : Nat} {cs : Array Value} (r : RowAt w q cs t) (h0 : cs[o]? = some (.string ⟨#[]⟩)) (h1 : cs[o + 1]? = some (.string ⟨#[]⟩)) : w.rangeAt q o [.string ⟨#[]⟩, .string ⟨#[]⟩] := by
  intro j u hu
  match j, hu with
  | 0, hu => cases hu; exact r.cellv h0
  | 1, hu => cases hu; exact r.cellv h1
  | j + 2, hu => simp at hu
def Bs13 (q o b : Nat) : List Value := [.pointer (some ⟨q, o, none⟩), undef, .pointer (some ⟨b, 0, none⟩), .pointer (some ⟨q, o, none⟩), .bool false, undef, undef, undef, undef, undef, undef, undef, undef, undef, undef]
def Vs13 (q o : Nat) : List Value := [.pointer (some ⟨q, o, none⟩), .pointer (some ⟨q, o, none⟩), .pointer (some ⟨q, o + 3, none⟩), .string ⟨#[]⟩, .pointer (some ⟨q, o, none⟩), .pointer (some ⟨q, o, none⟩), .pointer (some ⟨q, o, none⟩), .agg #[.string ⟨#[]⟩, .string ⟨#[]⟩], .agg trkV]
theorem rgn13 {Q : Exit → Act → World → Prop} (hQ : ∀ c a d v w, Q (.panic c) (a.put d v) w → Q (.panic c) a w) (q o t b : Nat) (cs : Array Value) (h0 : cs[o]? = some (.string ⟨#[]⟩)) (h1 : cs[o + 1]? = some (.string ⟨#[]⟩)) (h3 : cs[o + 3]? = some (.string ⟨#[]⟩)) (W : World) (hqb : q ≠ b) (hS : S13 q o t b cs W)
    (hend : ∀ W', RowAt W' b trkV 95 → Below b W W' → Q .normal ⟨List.toArray (Value.pointer (some ⟨q, o, none⟩) :: undef :: Value.pointer (some ⟨b, 0, none⟩) :: Value.pointer (some ⟨q, o, none⟩) :: Value.bool false :: undef :: Value.pointer (some ⟨q, o, none⟩) :: Value.pointer (some ⟨q, o, none⟩) :: Value.pointer (some ⟨q, o + 3, none⟩) :: Value.string ⟨#[]⟩ :: Value.pointer (some ⟨q, o, none⟩) :: Value.pointer (some ⟨q, o, none⟩) :: Value.pointer (some ⟨q, o, none⟩) :: Value.agg #[.string ⟨#[]⟩, .string ⟨#[]⟩] :: Value.agg trkV :: []), []⟩ W') : (Code.region 3 rg13.toArray true).wp Tryf.prog Q ⟨List.toArray (Value.pointer (some ⟨q, o, none⟩) :: undef :: Value.pointer (some ⟨b, 0, none⟩) :: Value.pointer (some ⟨q, o, none⟩) :: Value.bool false :: undef :: undef :: undef :: undef :: undef :: undef :: undef :: undef :: undef :: undef :: []), []⟩ W := by
  have hb : Below b W W.drew := below_drewN (Below.refl _ _) 1
  obtain ⟨W1, hW1⟩ : ∃ W1, W1 = W.drew := ⟨_, rfl⟩
  refine held_begin (N := 10) (S := S13 q o t b cs) (a' := frAct (Bs13 q o b) (Vs13 q o) 6 0) (by kernel_rfl) (by kernel_rfl) (by kernel_rfl) (show S13 q o t b cs W.drew from hS) (fun hS => ?_)
  rw [← hW1] at hb hS ⊢
  refine held_to (a' := frAct (Bs13 q o b) (Vs13 q o) 6 1) 0 10 (d := some 6) (v := .pointer (some ⟨q, o, none⟩)) (by kernel_rfl) (by kernel_rfl) sel13 (ok13 0 (by omega)) (fun c a w => hQ c a (some 6) _ w) (by kernel_rfl) (fun _ _ => by kernel_rfl) hS (by kernel_rfl) ?_
  refine held_to (a' := frAct (Bs13 q o b) (Vs13 q o) 6 2) 1 10 (d := some 7) (v := .pointer (some ⟨q, o, none⟩)) (by kernel_rfl) (by kernel_rfl) sel13 (ok13 1 (by omega)) (fun c a w => hQ c a (some 7) _ w) (by kernel_rfl) (fun _ _ => by kernel_rfl) hS (by kernel_rfl) ?_
  refine held_to (a' := frAct (Bs13 q o b) (Vs13 q o) 6 3) 2 10 (d := some 8) (v := .pointer (some ⟨q, o + 3, none⟩)) (by kernel_rfl) (by kernel_rfl) sel13 (ok13 2 (by omega)) (fun c a w => hQ c a (some 8) _ w) (by kernel_rfl) (fun _ _ => by kernel_rfl) hS (by kernel_rfl) ?_
  refine held_to (a' := frAct (Bs13 q o b) (Vs13 q o) 6 4) 3 10 (d := some 9) (v := .string ⟨#[]⟩) (by kernel_rfl) (by kernel_rfl) sel13 (ok13 3 (by omega)) (fun c a w => hQ c a (some 9) _ w) (by kernel_rfl) (fun _ hS => run_ld (T := 9) (x := .tmp 8) (by kernel_rfl) (by kernel_rfl) (run_ld1 ⟨q, o + 3, none⟩ 9 _ _ (by kernel_rfl) (hS.1.cellv h3))) hS (by kernel_rfl) ?_
  refine held_to (a' := frAct (Bs13 q o b) (Vs13 q o) 6 5) 4 10 (d := some 10) (v := .pointer (some ⟨q, o, none⟩)) (by kernel_rfl) (by kernel_rfl) sel13 (ok13 4 (by omega)) (fun c a w => hQ c a (some 10) _ w) (by kernel_rfl) (fun _ _ => by kernel_rfl) hS (by kernel_rfl) ?_
  refine held_to (a' := frAct (Bs13 q o b) (Vs13 q o) 6 6) 5 10 (d := some 11) (v := .pointer (some ⟨q, o, none⟩)) (by kernel_rfl) (by kernel_rfl) sel13 (ok13 5 (by omega)) (fun c a w => hQ c a (some 11) _ w) (by kernel_rfl) (fun _ _ => by kernel_rfl) hS (by kernel_rfl) ?_
  refine held_to (a' := frAct (Bs13 q o b) (Vs13 q o) 6 7) 6 10 (d := some 12) (v := .pointer (some ⟨q, o, none⟩)) (by kernel_rfl) (by kernel_rfl) sel13 (ok13 6 (by omega)) (fun c a w => hQ c a (some 12) _ w) (by kernel_rfl) (fun _ _ => by kernel_rfl) hS (by kernel_rfl) ?_
  refine held_to (a' := frAct (Bs13 q o b) (Vs13 q o) 6 8) 7 10 (d := some 13) (v := .agg #[.string ⟨#[]⟩, .string ⟨#[]⟩]) (by kernel_rfl) (by kernel_rfl) sel13 (ok13 7 (by omega)) (fun c a w => hQ c a (some 13) _ w) (by kernel_rfl) (fun _ hS => run_ld (T := 86) (x := .tmp 12) (by kernel_rfl) (by kernel_rfl) (run_loadVar_mid _ q o 86 [.string ⟨#[]⟩, .string ⟨#[]⟩] _ (range2 hS.1 h0 h1) Tryf.underlying86 rfl (by kernel_rfl))) hS (by kernel_rfl) ?_
  refine held_to (a' := frAct (Bs13 q o b) (Vs13 q o) 6 9) 8 10 (d := some 14) (v := .agg trkV) (by kernel_rfl) (by kernel_rfl) sel13 (ok13 8 (by omega)) (fun c a w => hQ c a (some 14) _ w) (by kernel_rfl) (fun _ _ => by kernel_rfl) hS (by kernel_rfl) ?_
  obtain ⟨ds, hS2, hds⟩ := hS.2
  refine held_ready1 9 (by kernel_rfl) (by kernel_rfl) (by kernel_rfl) ?_
  refine wp_store_row 95 (.tmp 2) (.tmp 14) (by kernel_rfl) b trkV (by kernel_rfl) (by kernel_rfl) 95 _ hS2 (by kernel_rfl) hds (by kernel_rfl) ?_
  have hr := row_setRow (ds := trkV) hS2
  refine ⟨⟨(setRow_other _ b q _ hqb).trans hS.1, _, hr, rfl⟩, ?_⟩
  rw [Lk_succ]
  exact held_done (by kernel_rfl) rfl (hend _ hr (below_setRow hb (Nat.le_refl _) _))
def MkIs (W : World) (e : Ending) (W' : World) : Prop := e = .returned (.agg trkV) ∧ Below W.heap.size W W'
set_option maxHeartbeats 4000000 in
theorem mk13 (q o t : Nat) (cs : Array Value) (W : World) (r : RowAt W q cs t) (h0 : cs[o]? = some (.string ⟨#[]⟩)) (h1 : cs[o + 1]? = some (.string ⟨#[]⟩)) (h3 : cs[o + 3]? = some (.string ⟨#[]⟩)) : Calls Tryf.prog 13 #[.pointer (some ⟨q, o, none⟩)] W (MkIs W) := by
  have hp := r.lt
  have r1 := r.alloc (.cells #[.string ⟨#[]⟩, .string ⟨#[]⟩, .string ⟨#[]⟩, .int .i32 0, .int .i32 0, .int .i32 0, .int .i32 0, .bool false, .bool false, .bool false] 95)
  have rq : RowAt (W.alloc (.cells #[.string ⟨#[]⟩, .string ⟨#[]⟩, .string ⟨#[]⟩, .int .i32 0, .int .i32 0, .int .i32 0, .int .i32 0, .bool false, .bool false, .bool false] 95)) W.heap.size #[.string ⟨#[]⟩, .string ⟨#[]⟩, .string ⟨#[]⟩, .int .i32 0, .int .i32 0, .int .i32 0, .int .i32 0, .bool false, .bool false, .bool false] 95 := RowAt.new W _ _
  have hb : Below W.heap.size W (W.alloc (.cells #[.string ⟨#[]⟩, .string ⟨#[]⟩, .string ⟨#[]⟩, .int .i32 0, .int .i32 0, .int .i32 0, .int .i32 0, .bool false, .bool false, .bool false] 95)) := (Below.refl _ _).alloc (Nat.le_refl _) _
  have HH := Lib.hid (And.intro r1 (And.intro rq hb))
  have H0 := Lib.hid (And.intro h0 (And.intro h1 h3))
  clear r r1 rq hb h0 h1 h3
  go_enter Tryf.func13, Tryf.ntmps13
  go_upto_region 3 with (fail)
  refine reg_conv rg13 (by kernel_rfl) ?_
  refine rgn13 (fun c a d v w h => by cases d <;> exact h) q o t W.heap.size cs H0.out.1 H0.out.2.1 H0.out.2.2 _ (by omega) ⟨HH.out.1, _, HH.out.2.1, rfl⟩ (fun W2 r2 b2 => ?_)
  have H2 := Lib.hid (And.intro r2 (HH.out.2.2.trans b2))
  clear r2 b2
  go_wp2_with fail
  exact bodyPost_ret (v := .agg trkV) (results_cell Tryf.results13 (by rfl) (run_loadVar_mid _ W.heap.size 0 95 _ _ (range_of H2.out.1) Tryf.underlying95 rfl (by kernel_rfl))) rfl ⟨rfl, H2.out.2⟩

end Go.Proofs.YtidicogmfpfibaaFmt
