import Derived.Test.YtidicogmfpfibacFmtKit
import Derived.Test.YtidicogmfpfibacFmtLnG
namespace Go.Proofs.YtidicogmfpfibacFmt
open Go.ChangeShapes Go.WideShapes Go.ChangeAt Go.RowKit
set_option linter.unusedVariables false
set_option maxRecDepth 100000
set_option maxHeartbeats 2000000

open Go.MuLone
noncomputable def A81 (tk : Int) (w : World) : Array Value := match (Instr.build 81 #[(32, .int .u8 tk)]).run Tryf.prog w with | .ok (.agg c) _ => c | _ => #[]
theorem build81k (tk : Int) (w : World) : (Instr.build 81 #[(32, .int .u8 tk)]).run Tryf.prog w = .ok (.agg (A81 tk w)) w := by kernel_rfl
noncomputable def A165 (k mu he ms : Nat) (tk : Int) (b : Bool) (w0 w : World) : Array Value := match (Instr.build 165 #[(1, .agg (logV k mu he ms)), (68, .agg (A81 tk w0)), (99, .bool b)]).run Tryf.prog w with | .ok (.agg c) _ => c | _ => #[]
theorem build165k (k mu he ms : Nat) (tk : Int) (b : Bool) (w0 w : World) : (Instr.build 165 #[(1, .agg (logV k mu he ms)), (68, .agg (A81 tk w0)), (99, .bool b)]).run Tryf.prog w = .ok (.agg (A165 k mu he ms tk b w0 w)) w := by kernel_rfl
/-- A parser with this log and without a source for its tracker. -/
def PL (p k mu he ms : Nat) (tk : Int) (W : World) : Prop := ∃ cs, RowAt W p cs 165 ∧ (cs.toList.drop 51).take 6 = (logV k mu he ms).toList ∧ cs[76]? = some (.bool false) ∧ cs[254]? = some (.int .i64 0) ∧ cs[255]? = some (.int .i64 0) ∧ cs[270]? = some (.int .u8 tk)
theorem PL.kp {p k mu he ms : Nat} {tk : Int} {W W' : World} (h : PL p k mu he ms tk W) (hk : Kp W W') : PL p k mu he ms tk W' := by
  obtain ⟨cs, r, h1, h2⟩ := h
  exact ⟨cs, hk p cs 165 (by decide) (by decide) (by decide) (by decide) r, h1, h2⟩
def NewPar (B : Nat) (tk : Int) (W : World) (e : Ending) (W' : World) : Prop := ∃ p k mu he ms, e = .returned (.pointer (some ⟨p, 0, none⟩)) ∧ LG B k mu he ms 0 (.slice none 0 0) 0 [] W' ∧ PL p k mu he ms tk W' ∧ Below W.heap.size W W'
set_option maxHeartbeats 4000000 in
theorem newpar5 (W : World) (B : Nat) (hB : B ≤ W.heap.size) (tk : Int) : Calls Tryf.prog 5 #[.bool false, .int .u8 tk] W (NewPar B tk W) := by
  go_enter Tryf.func5, Tryf.ntmps5
  go_wp2_with fail
  refine (newlog7 W B hB).mono ?_
  rintro e1 w1 ⟨k, mu, he, ms, rfl, H, hb⟩
  have HH := Lib.hid (And.intro H hb)
  clear H hb
  go_wp2_with (first
    | (refine wpList_build rfl 81 _ rfl #[(32, .int .u8 tk)] (by simp [Act.eval, Act.put]) _ (build81k tk _) ?_)
    | (refine wpList_build rfl 165 _ rfl #[(1, .agg (logV k mu he ms)), (68, .agg (A81 tk w1)), (99, .bool false)] (by simp [Act.eval, Act.put]) _ (build165k k mu he ms tk false w1 _) ?_))
  go_ret
  exact ⟨_, k, mu, he, ms, rfl, HH.out.1.later ((Below.refl _ _).alloc (Nat.le_refl _) _), ⟨_, RowAt.new w1 _ 165, by kernel_rfl, by kernel_rfl, by kernel_rfl, by kernel_rfl, by kernel_rfl⟩, HH.out.2.alloc HH.out.2.size _⟩
theorem msgs7 (B p k mu he ms : Nat) (tk : Int) (kd : Int) (v : Value) (n : Nat) (xs : List Value) (Nt : Nat → Option Addr × Nat × Nat) (T : Nat → ByteArray) (W : World) (H : LG B k mu he ms kd v n xs W) (hP : PL p k mu he ms tk W) (hM : MsgList n Nt T xs) (hn : n ≤ 19) :
    Calls Tryf.prog 7 #[.pointer (some ⟨p, 0, none⟩)] W (DoneIs B k mu he ms kd v n xs W) := by
  obtain ⟨cs, r, h1, h2, -⟩ := hP
  have c54 := r.cellv (j := 54) (v := .func (Fn.func 15) #[] #[.pointer (some ⟨mu, 0, none⟩), .pointer (some ⟨ms, 0, none⟩)]) (by
    have := congrArg (·[3]?) h1
    simp only [List.getElem?_take, List.getElem?_drop] at this
    have e : cs[54]? = (logV k mu he ms)[3]? := by simpa using this
    exact e)
  have HH := Lib.hid H
  have HM := Lib.hid hM
  clear r h1 h2 H hM
  go_enter Tryf.func7, Tryf.ntmps7
  go_wp2_with fail
  refine (done14 B k mu he ms kd v n xs Nt T W HH.out HM.out hn).mono ?_
  rintro e1 w1 ⟨rfl, h1, h2, h3⟩
  have HE := Lib.hid (And.intro h1 (And.intro h2 h3))
  clear h1 h2 h3
  go_wp2_with fail
  go_ret
  exact ⟨rfl, HE.out⟩

noncomputable def rg18_1 : List Oper := rgAt Tryf.f18 1
theorem ok18_1_0 : ((List.range 15).all fun i => stepOk rg18_1.toArray 18 (0 + i)) = true := by kernel_rfl
theorem ok18_1_1 : ((List.range 2).all fun i => stepOk rg18_1.toArray 18 (15 + i)) = true := by kernel_rfl
theorem ok18_1 (j : Nat) (h : j < 17) : stepOk rg18_1.toArray 18 j = true := by
  by_cases h0 : j < 15; · exact chunk ok18_1_0 j (by omega) (by omega)
  exact chunk ok18_1_1 j (by omega) (by omega)
theorem sel18_1 : Region.noSelect rg18_1.toArray = true := by kernel_rfl
def Bs18 (p q : Nat) (cs : Array Value) : List Value := [.pointer (some ⟨p, 201, none⟩), undef, .pointer (some ⟨q, 0, none⟩), undef, undef, undef, undef, undef, undef, undef, undef, undef, undef, undef, undef, undef, undef, undef, undef, undef]
def Vs18 (p q : Nat) (cs : Array Value) : List Value := [.pointer (some ⟨p, 201, none⟩), .pointer (some ⟨p, 201, none⟩), .pointer (some ⟨p, 254, none⟩), .int .i64 0, .int .i32 0, .agg #[.int .i32 0], .pointer (some ⟨p, 201, none⟩), .pointer (some ⟨p, 201, none⟩), .pointer (some ⟨p, 255, none⟩), .int .i64 0, .pointer (some ⟨p, 201, none⟩), .pointer (some ⟨p, 201, none⟩), .pointer (some ⟨p, 254, none⟩), .int .i64 0, .int .i64 0, .int .i32 0, .agg #[.int .i32 0, .int .i32 0]]
def S18 (p q : Nat) (cs : Array Value) (W : World) : Prop := RowAt W p cs 165 ∧ RowAt W q #[.int .i32 0, .int .i32 0] 64 ∧ cs[254]? = some (.int .i64 0) ∧ cs[255]? = some (.int .i64 0)
theorem rgn18 {Q : Exit → Act → World → Prop} (hQ : ∀ c a d v w, Q (.panic c) (a.put d v) w → Q (.panic c) a w) (p q : Nat) (cs : Array Value) (W : World) (hS : S18 p q cs W) (hend : ∀ W', RowAt W' q #[.int .i32 0, .int .i32 0] 64 → Below q W W' → Q .normal ⟨List.toArray (Value.pointer (some ⟨p, 201, none⟩) :: undef :: Value.pointer (some ⟨q, 0, none⟩) :: Value.pointer (some ⟨p, 201, none⟩) :: Value.pointer (some ⟨p, 201, none⟩) :: Value.pointer (some ⟨p, 254, none⟩) :: Value.int .i64 0 :: Value.int .i32 0 :: Value.agg #[.int .i32 0] :: Value.pointer (some ⟨p, 201, none⟩) :: Value.pointer (some ⟨p, 201, none⟩) :: Value.pointer (some ⟨p, 255, none⟩) :: Value.int .i64 0 :: Value.pointer (some ⟨p, 201, none⟩) :: Value.pointer (some ⟨p, 201, none⟩) :: Value.pointer (some ⟨p, 254, none⟩) :: Value.int .i64 0 :: Value.int .i64 0 :: Value.int .i32 0 :: Value.agg #[.int .i32 0, .int .i32 0] :: []), []⟩ W') : (Code.region 1 rg18_1.toArray true).wp Tryf.prog Q ⟨List.toArray (Value.pointer (some ⟨p, 201, none⟩) :: undef :: Value.pointer (some ⟨q, 0, none⟩) :: undef :: undef :: undef :: undef :: undef :: undef :: undef :: undef :: undef :: undef :: undef :: undef :: undef :: undef :: undef :: undef :: undef :: []), []⟩ W := by
  have hb : Below q W W.drew := below_drewN (Below.refl _ _) 1
  obtain ⟨W1, hW1⟩ : ∃ W1, W1 = W.drew := ⟨_, rfl⟩
  refine held_begin (N := 18) (S := S18 p q cs) (a' := frAct (Bs18 p q cs) (Vs18 p q cs) 3 0) (by kernel_rfl) (by kernel_rfl) (by kernel_rfl) (show S18 p q cs W.drew from hS) (fun hS => ?_)
  rw [← hW1] at hb hS ⊢
  refine held_to (a' := frAct (Bs18 p q cs) (Vs18 p q cs) 3 1) 0 18 (d := some 3) (v := .pointer (some ⟨p, 201, none⟩)) (by kernel_rfl) (by kernel_rfl) sel18_1 (ok18_1 0 (by omega)) (fun c a w => hQ c a (some 3) _ w) (by kernel_rfl) (fun _ _ => by kernel_rfl) hS (by kernel_rfl) ?_
  refine held_to (a' := frAct (Bs18 p q cs) (Vs18 p q cs) 3 2) 1 18 (d := some 4) (v := .pointer (some ⟨p, 201, none⟩)) (by kernel_rfl) (by kernel_rfl) sel18_1 (ok18_1 1 (by omega)) (fun c a w => hQ c a (some 4) _ w) (by kernel_rfl) (fun _ _ => by kernel_rfl) hS (by kernel_rfl) ?_
  refine held_to (a' := frAct (Bs18 p q cs) (Vs18 p q cs) 3 3) 2 18 (d := some 5) (v := .pointer (some ⟨p, 254, none⟩)) (by kernel_rfl) (by kernel_rfl) sel18_1 (ok18_1 2 (by omega)) (fun c a w => hQ c a (some 5) _ w) (by kernel_rfl) (fun _ _ => by kernel_rfl) hS (by kernel_rfl) ?_
  refine held_to (a' := frAct (Bs18 p q cs) (Vs18 p q cs) 3 4) 3 18 (d := some 6) (v := .int .i64 0) (by kernel_rfl) (by kernel_rfl) sel18_1 (ok18_1 3 (by omega)) (fun c a w => hQ c a (some 6) _ w) (by kernel_rfl) (fun _ hS => run_ld (T := 3) (x := .tmp 5) (by kernel_rfl) (by kernel_rfl) (run_ld1 ⟨p, 254, none⟩ 3 _ _ (by kernel_rfl) (hS.1.cellv hS.2.2.1))) hS (by kernel_rfl) ?_
  refine held_to (a' := frAct (Bs18 p q cs) (Vs18 p q cs) 3 5) 4 18 (d := some 7) (v := .int .i32 0) (by kernel_rfl) (by kernel_rfl) sel18_1 (ok18_1 4 (by omega)) (fun c a w => hQ c a (some 7) _ w) (by kernel_rfl) (fun _ _ => by kernel_rfl) hS (by kernel_rfl) ?_
  refine held_to (a' := frAct (Bs18 p q cs) (Vs18 p q cs) 3 6) 5 18 (d := some 8) (v := .agg #[.int .i32 0]) (by kernel_rfl) (by kernel_rfl) sel18_1 (ok18_1 5 (by omega)) (fun c a w => hQ c a (some 8) _ w) (by kernel_rfl) (fun _ _ => by kernel_rfl) hS (by kernel_rfl) ?_
  refine held_to (a' := frAct (Bs18 p q cs) (Vs18 p q cs) 3 7) 6 18 (d := some 9) (v := .pointer (some ⟨p, 201, none⟩)) (by kernel_rfl) (by kernel_rfl) sel18_1 (ok18_1 6 (by omega)) (fun c a w => hQ c a (some 9) _ w) (by kernel_rfl) (fun _ _ => by kernel_rfl) hS (by kernel_rfl) ?_
  refine held_to (a' := frAct (Bs18 p q cs) (Vs18 p q cs) 3 8) 7 18 (d := some 10) (v := .pointer (some ⟨p, 201, none⟩)) (by kernel_rfl) (by kernel_rfl) sel18_1 (ok18_1 7 (by omega)) (fun c a w => hQ c a (some 10) _ w) (by kernel_rfl) (fun _ _ => by kernel_rfl) hS (by kernel_rfl) ?_
  refine held_to (a' := frAct (Bs18 p q cs) (Vs18 p q cs) 3 9) 8 18 (d := some 11) (v := .pointer (some ⟨p, 255, none⟩)) (by kernel_rfl) (by kernel_rfl) sel18_1 (ok18_1 8 (by omega)) (fun c a w => hQ c a (some 11) _ w) (by kernel_rfl) (fun _ _ => by kernel_rfl) hS (by kernel_rfl) ?_
  refine held_to (a' := frAct (Bs18 p q cs) (Vs18 p q cs) 3 10) 9 18 (d := some 12) (v := .int .i64 0) (by kernel_rfl) (by kernel_rfl) sel18_1 (ok18_1 9 (by omega)) (fun c a w => hQ c a (some 12) _ w) (by kernel_rfl) (fun _ hS => run_ld (T := 3) (x := .tmp 11) (by kernel_rfl) (by kernel_rfl) (run_ld1 ⟨p, 255, none⟩ 3 _ _ (by kernel_rfl) (hS.1.cellv hS.2.2.2))) hS (by kernel_rfl) ?_
  refine held_to (a' := frAct (Bs18 p q cs) (Vs18 p q cs) 3 11) 10 18 (d := some 13) (v := .pointer (some ⟨p, 201, none⟩)) (by kernel_rfl) (by kernel_rfl) sel18_1 (ok18_1 10 (by omega)) (fun c a w => hQ c a (some 13) _ w) (by kernel_rfl) (fun _ _ => by kernel_rfl) hS (by kernel_rfl) ?_
  refine held_to (a' := frAct (Bs18 p q cs) (Vs18 p q cs) 3 12) 11 18 (d := some 14) (v := .pointer (some ⟨p, 201, none⟩)) (by kernel_rfl) (by kernel_rfl) sel18_1 (ok18_1 11 (by omega)) (fun c a w => hQ c a (some 14) _ w) (by kernel_rfl) (fun _ _ => by kernel_rfl) hS (by kernel_rfl) ?_
  refine held_to (a' := frAct (Bs18 p q cs) (Vs18 p q cs) 3 13) 12 18 (d := some 15) (v := .pointer (some ⟨p, 254, none⟩)) (by kernel_rfl) (by kernel_rfl) sel18_1 (ok18_1 12 (by omega)) (fun c a w => hQ c a (some 15) _ w) (by kernel_rfl) (fun _ _ => by kernel_rfl) hS (by kernel_rfl) ?_
  refine held_to (a' := frAct (Bs18 p q cs) (Vs18 p q cs) 3 14) 13 18 (d := some 16) (v := .int .i64 0) (by kernel_rfl) (by kernel_rfl) sel18_1 (ok18_1 13 (by omega)) (fun c a w => hQ c a (some 16) _ w) (by kernel_rfl) (fun _ hS => run_ld (T := 3) (x := .tmp 15) (by kernel_rfl) (by kernel_rfl) (run_ld1 ⟨p, 254, none⟩ 3 _ _ (by kernel_rfl) (hS.1.cellv hS.2.2.1))) hS (by kernel_rfl) ?_
  refine held_to (a' := frAct (Bs18 p q cs) (Vs18 p q cs) 3 15) 14 18 (d := some 17) (v := .int .i64 0) (by kernel_rfl) (by kernel_rfl) sel18_1 (ok18_1 14 (by omega)) (fun c a w => hQ c a (some 17) _ w) (by kernel_rfl) (fun _ _ => by kernel_rfl) hS (by kernel_rfl) ?_
  refine held_to (a' := frAct (Bs18 p q cs) (Vs18 p q cs) 3 16) 15 18 (d := some 18) (v := .int .i32 0) (by kernel_rfl) (by kernel_rfl) sel18_1 (ok18_1 15 (by omega)) (fun c a w => hQ c a (some 18) _ w) (by kernel_rfl) (fun _ _ => by kernel_rfl) hS (by kernel_rfl) ?_
  refine held_to (a' := frAct (Bs18 p q cs) (Vs18 p q cs) 3 17) 16 18 (d := some 19) (v := .agg #[.int .i32 0, .int .i32 0]) (by kernel_rfl) (by kernel_rfl) sel18_1 (ok18_1 16 (by omega)) (fun c a w => hQ c a (some 19) _ w) (by kernel_rfl) (fun _ _ => by kernel_rfl) hS (by kernel_rfl) ?_
  refine held_ready1 17 (by kernel_rfl) (by kernel_rfl) (by kernel_rfl) ?_
  refine wp_store_row 64 (.tmp 2) (.tmp 19) (by kernel_rfl) q #[.int .i32 0, .int .i32 0] (by kernel_rfl) (by kernel_rfl) 64 _ hS.2.1 (by kernel_rfl) (by kernel_rfl) (by kernel_rfl) ?_
  have hr := row_setRow (ds := #[.int .i32 0, .int .i32 0]) hS.2.1
  have hpq : p ≠ q := hS.1.diff hS.2.1 (by decide)
  refine ⟨⟨(setRow_other _ q p _ hpq).trans hS.1, hr, hS.2.2⟩, ?_⟩
  rw [Lk_succ]
  exact held_done (by kernel_rfl) rfl (hend _ hr (below_setRow hb (Nat.le_refl _) _))
set_option maxHeartbeats 4000000 in
theorem range18 (p : Nat) (cs : Array Value) (W : World) (r : RowAt W p cs 165) (h1 : cs[254]? = some (.int .i64 0)) (h2 : cs[255]? = some (.int .i64 0)) : Calls Tryf.prog 18 #[.pointer (some ⟨p, 201, none⟩)] W fun e W' => e = .returned (.agg #[.int .i32 0, .int .i32 0]) ∧ Below W.heap.size W W' := by
  have r2 := r.alloc (.cells #[.int .i32 0, .int .i32 0] 64)
  have r3 : RowAt (W.alloc (.cells #[.int .i32 0, .int .i32 0] 64)) W.heap.size #[.int .i32 0, .int .i32 0] 64 := RowAt.new W _ _
  have hb : Below W.heap.size W (W.alloc (.cells #[.int .i32 0, .int .i32 0] 64)) := (Below.refl _ _).alloc (Nat.le_refl _) _
  have HH := Lib.hid (And.intro r2 (And.intro r3 (And.intro hb (And.intro h1 h2))))
  clear r r2 r3 hb h1 h2
  go_enter Tryf.func18, Tryf.ntmps18
  go_upto_region 1 with (fail)
  refine reg_conv rg18_1 (by kernel_rfl) ?_
  refine rgn18 (fun c a d v w h => by cases d <;> exact h) p W.heap.size cs _ ⟨HH.out.1, HH.out.2.1, HH.out.2.2.2⟩ (fun W' h3 h4 => ?_)
  have H4 := Lib.hid (And.intro h3 (HH.out.2.2.1.trans h4))
  clear h3 h4
  go_wp2_with fail
  exact bodyPost_ret (v := .agg #[.int .i32 0, .int .i32 0]) (results_cell Tryf.results18 (by rfl) (run_loadVar_mid _ W.heap.size 0 64 _ _ (range_of H4.out.1) Tryf.underlying64 rfl (by kernel_rfl))) rfl ⟨rfl, H4.out.2⟩

end Go.Proofs.YtidicogmfpfibacFmt
