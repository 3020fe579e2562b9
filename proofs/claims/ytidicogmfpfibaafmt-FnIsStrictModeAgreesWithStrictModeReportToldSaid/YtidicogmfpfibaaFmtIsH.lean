import Derived.Test.YtidicogmfpfibaaFmtKit
import Derived.Test.YtidicogmfpfibaaFmtIsG
import Derived.Test.YtidicogmfpfibaaFmtIsE
import Derived.Stop.CallBack
import Derived.Stop.IfaceNil
import GoSem.ClaimData
import Derived.WalkSpells
namespace Go.Proofs.YtidicogmfpfibaaFmt
open Go.ChangeShapes Go.WideShapes Go.ChangeAt Go.RowKit
set_option linter.unusedVariables false
set_option maxRecDepth 100000
set_option maxHeartbeats 2000000

open Go.MuLone Go.Extern.Stop Go.Stop Go.Extern
section
variable {P : Program} {w : World}
theorem run_callF {a : Act} {o : Oper} {c : Call} {d : Deferred} {f : FuncId} {args : Array Value} {w' : World} {v : Value} (ho : o.op = .call c) (hr : (resolve a.eval c o.type).run P w = .ok d w) (hi : invoke d.target d.args = callFunc f args) (h : (callFunc f args).run P w = .ok (.value v) w') : (execOp a.eval o).run P w = .ok (.value v) w' := by
  unfold execOp
  rw [ho]
  simp only [Sem.run_bind, hr, Result.andThen_ok, hi, h]
end
noncomputable def callTx (o : Oper) (j : Nat) : ByteArray := match o.op with
  | .call c => (match c.args[j]? with | some (.const (.string b)) => b | _ => ⟨#[]⟩)
  | _ => ⟨#[]⟩
noncomputable def partTx (ps : List (Nat × Operand)) : ByteArray := match ps with
  | (_, .const (.string b)) :: _ => b
  | _ => ⟨#[]⟩
noncomputable def buildTx (o : Oper) : ByteArray := match o.op with
  | .build _ ps => partTx ps.toList
  | _ => ⟨#[]⟩
theorem range1 {w : World} {q o t : Nat} {cs : Array Value} {v : Value} (r : RowAt w q cs t) (h0 : cs[o]? = some v) : w.rangeAt q o [v] := by
  intro j u hu
  match j, hu with
  | 0, hu => cases hu; exact r.cellv h0
  | j + 1, hu => simp at hu
theorem range2v {w : World} {q o t : Nat} {cs : Array Value} {v u' : Value} (r : RowAt w q cs t) (h0 : cs[o]? = some v) (h1 : cs[o + 1]? = some u') : w.rangeAt q o [v, u'] := by
  intro j u hu
  match j, hu with
  | 0, hu => cases hu; exact r.cellv h0
  | 1, hu => cases hu; exact r.cellv h1
  | j + 2, hu => simp at hu
variable {p k mu he ms sc ts : Nat} {fm kd : Int} {W W' : World}
theorem ps_320 (h : PS p k mu he ms sc ts fm kd W) : (loadVar 41 ⟨p, 320, none⟩).run Tryf.prog W = .ok (.agg #[.int .i32 0, .int .i32 0]) W := by
  obtain ⟨cs, b, r, -, -, h3, -⟩ := h
  exact run_loadVar_mid W p 320 41 _ _ (range2v r (h3.get 16 rfl) (h3.get 17 rfl)) Tryf.underlying41 rfl (by kernel_rfl)
theorem ps_328 (h : PS p k mu he ms sc ts fm kd W) : (loadVar 39 ⟨p, 328, none⟩).run Tryf.prog W = .ok (.agg #[.int .i32 0]) W := by
  obtain ⟨cs, b, r, -, -, h3, -⟩ := h
  exact run_loadVar_mid W p 328 39 _ _ (range1 r (h3.get 19 rfl)) Tryf.underlying39 rfl (by kernel_rfl)
theorem ps_use (h : PS p k mu he ms sc ts fm kd W) : (loadVar 39 ⟨sc, 6, none⟩).run Tryf.prog W = .ok (.agg #[.int .i32 0]) W := by
  obtain ⟨cs, b, r, -, -, h3, ⟨ss, rs, h4⟩, -⟩ := h
  exact run_loadVar_mid W sc 6 39 _ _ (range1 rs (h4.get 0 rfl)) Tryf.underlying39 rfl (by kernel_rfl)
theorem ps_tsr (h : PS p k mu he ms sc ts fm kd W) : (loadVar 41 ⟨ts, 11, none⟩).run Tryf.prog W = .ok (.agg #[.int .i32 0, .int .i32 0]) W := by
  obtain ⟨cs, b, r, -, -, h3, -, tt, rt, h5⟩ := h
  exact run_loadVar_mid W ts 11 41 _ _ (range2v rt (h5.get 4 rfl) (h5.get 5 rfl)) Tryf.underlying41 rfl (by kernel_rfl)
theorem ps_tsn (h : PS p k mu he ms sc ts fm kd W) : (loadVar 9 ⟨ts, 0, none⟩).run Tryf.prog W = .ok (.string ⟨#[]⟩) W := by
  obtain ⟨cs, b, r, -, -, h3, -, tt, rt, h5⟩ := h
  exact run_ld1 ⟨ts, 0, none⟩ 9 _ _ (by kernel_rfl) (rt.cellv (h5.get 0 rfl))
/-- A tracker of its own over an empty text. -/
def Trk7 (t7 : Nat) (W : World) : Prop := ∃ tr b, RowAt W t7 tr 95 ∧ At tr (trkL 0) ∧ tr[0 + 8]? = some (.bool b)
theorem Trk7.later {t7 : Nat} (h : Trk7 t7 W) (hb : Below W.heap.size W W') : Trk7 t7 W' := by
  obtain ⟨tr, b, r, h1, h2⟩ := h
  exact ⟨tr, b, r.below hb r.lt, h1, h2⟩
theorem Trk7.tracked {t7 : Nat} {tr : Array Value} {b : Bool} (r' : RowAt W' t7 (tr.setIfInBounds (0 + 8) (.bool true)) 95) (h1 : At tr (trkL 0)) (h2 : tr[0 + 8]? = some (.bool b)) : Trk7 t7 W' := by
  obtain ⟨hlt, _⟩ := Array.getElem?_eq_some_iff.1 h2
  exact ⟨_, true, r', trkL_set h1 _, by rw [Array.getElem?_setIfInBounds_self_of_lt hlt]⟩
/-- Rows of a parser stay where only a tracker's row turns. -/
theorem PS.fp7 {t7 : Nat} {tr : Array Value} (h : PS p k mu he ms sc ts fm kd W) (r7 : RowAt W t7 tr 95) (hF : Fp t7 W W') : PS p k mu he ms sc ts fm kd W' := by
  obtain ⟨cs, b, r, h1, h2, h3, ⟨ss, rs, h4⟩, tt, rt, h5⟩ := h
  exact ⟨cs, b, hF _ _ _ (r.diff r7 (by decide)) r, h1, h2, h3, ⟨ss, hF _ _ _ (rs.diff r7 (by decide)) rs, h4⟩, tt, hF _ _ _ (rt.diff r7 (by decide)) rt, h5⟩
@[go_sem] theorem call14 (args : Array Value) (w : World) : (callFunc 14 args).run Tryf.prog w = ((FmtStop.sprintf #[9, 333] #[9] args).run Tryf.prog w).andThen fun v w' => .ok (.value v) w' :=
  run_callFunc_extern Tryf.func14 (by kernel_rfl) (by kernel_rfl) (by kernel_rfl) (by kernel_rfl) args w
@[go_sem] theorem guardF (name : String) (w : World) : (FmtStop.guard name).run Tryf.prog w = .ok () w := by kernel_rfl
def sh9 : List UInt8 := [12, 6, 0, 0, 0, 0, 0, 0, 0, 115, 116, 114, 105, 110, 103]
@[go_sem] theorem op9_113 (name : String) (x : ByteArray) (w : World) : (FmtStop.operand name false 113 false (.iface 9 (.string x))).run Tryf.prog w = .ok (sh9, FmtStop.pack x.data.toList) w := by kernel_rfl
@[go_sem] theorem op9_115 (name : String) (x : ByteArray) (w : World) : (FmtStop.operand name false 115 false (.iface 9 (.string x))).run Tryf.prog w = .ok (sh9, FmtStop.pack x.data.toList) w := by kernel_rfl
def fmA : ByteArray := ⟨#[68, 101, 99, 108, 97, 114, 97, 116, 105, 111, 110, 115, 32, 119, 105, 116, 104, 32, 116, 104, 101, 32, 110, 97, 109, 101, 32, 37, 113]⟩
@[go_sem] theorem fmAp : FmtStop.printed? fmA 1 = some [(0, 113, false)] := by kernel_rfl
@[go_sem] theorem fmAr (w : World) : (FmtDoors.printed fmA 1).run Tryf.prog w = .ok [(0, 113, false)] w := by kernel_rfl
theorem spA (F : Interp) (g : Nat) (x0 : ByteArray) (W : World) (hF : F.answers W.tape) (h0 : W.cell? ⟨g, 0, none⟩ = some (.iface 9 (.string x0))) :
    ∃ t, (callFunc 14 #[.string fmA, .slice (some ⟨g, 0, none⟩) 1 1]).run Tryf.prog W = .ok (.value (.string t)) W.drew := by
  have hF' := answers_open hF
  exact ⟨_, by simp [go_sem, h0, hF']; rfl⟩
def fmB : ByteArray := ⟨#[37, 113, 32, 105, 115, 32, 97, 32, 114, 101, 115, 101, 114, 118, 101, 100, 32, 119, 111, 114, 100, 32, 97, 110, 100]⟩
@[go_sem] theorem fmBp : FmtStop.printed? fmB 1 = some [(0, 113, false)] := by kernel_rfl
@[go_sem] theorem fmBr (w : World) : (FmtDoors.printed fmB 1).run Tryf.prog w = .ok [(0, 113, false)] w := by kernel_rfl
theorem spB (F : Interp) (g : Nat) (x0 : ByteArray) (W : World) (hF : F.answers W.tape) (h0 : W.cell? ⟨g, 0, none⟩ = some (.iface 9 (.string x0))) :
    ∃ t, (callFunc 14 #[.string fmB, .slice (some ⟨g, 0, none⟩) 1 1]).run Tryf.prog W = .ok (.value (.string t)) W.drew := by
  have hF' := answers_open hF
  exact ⟨_, by simp [go_sem, h0, hF']; rfl⟩
def fmC : ByteArray := ⟨#[37, 115, 32, 99, 97, 110, 110, 111, 116, 32, 98, 101, 32, 117, 115, 101, 100, 32, 37, 115]⟩
@[go_sem] theorem fmCp : FmtStop.printed? fmC 2 = some [(0, 115, false), (1, 115, false)] := by kernel_rfl
@[go_sem] theorem fmCr (w : World) : (FmtDoors.printed fmC 2).run Tryf.prog w = .ok [(0, 115, false), (1, 115, false)] w := by kernel_rfl
theorem spC (F : Interp) (g : Nat) (x0 x1 : ByteArray) (W : World) (hF : F.answers W.tape) (h0 : W.cell? ⟨g, 0, none⟩ = some (.iface 9 (.string x0))) (h1 : W.cell? ⟨g, 1, none⟩ = some (.iface 9 (.string x1))) :
    ∃ t, (callFunc 14 #[.string fmC, .slice (some ⟨g, 0, none⟩) 2 2]).run Tryf.prog W = .ok (.value (.string t)) W.drew := by
  have hF' := answers_open hF
  exact ⟨_, by simp [go_sem, h0, h1, hF']; rfl⟩
def fmD : ByteArray := ⟨#[84, 121, 112, 101, 83, 99, 114, 105, 112, 116, 39, 115, 32, 37, 113, 32, 115, 101, 116, 116, 105, 110, 103, 32, 119, 97, 115, 32, 101, 110, 97, 98, 108, 101, 100, 32, 104, 101, 114, 101, 58]⟩
@[go_sem] theorem fmDp : FmtStop.printed? fmD 1 = some [(0, 113, false)] := by kernel_rfl
@[go_sem] theorem fmDr (w : World) : (FmtDoors.printed fmD 1).run Tryf.prog w = .ok [(0, 113, false)] w := by kernel_rfl
theorem spD (F : Interp) (g : Nat) (x0 : ByteArray) (W : World) (hF : F.answers W.tape) (h0 : W.cell? ⟨g, 0, none⟩ = some (.iface 9 (.string x0))) :
    ∃ t, (callFunc 14 #[.string fmD, .slice (some ⟨g, 0, none⟩) 1 1]).run Tryf.prog W = .ok (.value (.string t)) W.drew := by
  have hF' := answers_open hF
  exact ⟨_, by simp [go_sem, h0, hF']; rfl⟩
noncomputable def rg15_4 : List Oper := rgAt Tryf.f15 4
theorem ok15_4_0 : ((List.range 7).all fun i => stepOk rg15_4.toArray 10 (0 + i)) = true := by kernel_rfl
theorem ok15_4 (j : Nat) (h : j < 7) : stepOk rg15_4.toArray 10 j = true := by
  exact chunk ok15_4_0 j (by omega) (by omega)
theorem sel15_4 : Region.noSelect rg15_4.toArray = true := by kernel_rfl
noncomputable def tx15_4 : ByteArray := callTx (rg15_4.getD 7 noOper) 2
def Bs15_4 (p sc : Nat) : List Value := [.pointer (some ⟨p, 0, none⟩), .pointer (some ⟨sc, 0, none⟩), undef, undef, .string ⟨#[105, 110, 32, 115, 116, 114, 105, 99, 116, 32, 109, 111, 100, 101]⟩, .slice none 0 0, undef, undef, .pointer (some ⟨sc, 0, none⟩), .pointer (some ⟨sc, 0, none⟩), .pointer (some ⟨sc, 14, none⟩), .int .u8 2, .bool true, .bool true, undef, undef, undef, undef, undef, undef, undef, undef, undef, undef, undef, undef, undef, undef, undef, undef, undef, undef, undef, undef, undef, undef, undef, undef, undef, undef, undef, undef, undef, undef, undef, undef, undef, undef, undef, undef, undef, undef, undef, undef, undef, undef, undef, undef, undef, undef, undef, undef, undef, undef, undef, undef, undef, undef, undef, undef, undef, undef, undef, undef, undef, undef, undef, undef, undef, undef, undef, undef]
noncomputable def Vs15_4 (p sc g n : Nat) : List Value := [.pointer (some ⟨p, 0, none⟩), .pointer (some ⟨p, 0, none⟩), .pointer (some ⟨p, 67, none⟩), .pointer (some ⟨p, 0, none⟩), .pointer (some ⟨p, 0, none⟩), .pointer (some ⟨p, 320, none⟩), .agg #[.int .i32 0, .int .i32 0], .agg #[.nilIface, .pointer (some ⟨g, 0, none⟩), .string tx15_4, .bool false], .slice (some ⟨n, 0, none⟩) 1 1]
theorem rgn15_4 {Q : Exit → Act → World → Prop} (hQ : ∀ c a d v w, Q (.panic c) (a.put d v) w → Q (.panic c) a w) (p k mu he ms sc ts : Nat) (fm kd : Int) (B : Nat) (W : World) (hB : B ≤ p) (hS : PS p k mu he ms sc ts fm kd W) 
    (hend : ∀ g n W', PS p k mu he ms sc ts fm kd W' → Fp p W W' → Below B W W' → Q .normal ⟨List.toArray (Value.pointer (some ⟨p, 0, none⟩) :: Value.pointer (some ⟨sc, 0, none⟩) :: undef :: undef :: Value.string ⟨#[105, 110, 32, 115, 116, 114, 105, 99, 116, 32, 109, 111, 100, 101]⟩ :: Value.slice (some ⟨n, 0, none⟩) 1 1 :: undef :: undef :: Value.pointer (some ⟨sc, 0, none⟩) :: Value.pointer (some ⟨sc, 0, none⟩) :: Value.pointer (some ⟨sc, 14, none⟩) :: Value.int .u8 2 :: Value.bool true :: Value.bool true :: Value.pointer (some ⟨p, 0, none⟩) :: Value.pointer (some ⟨p, 0, none⟩) :: Value.pointer (some ⟨p, 67, none⟩) :: Value.pointer (some ⟨p, 0, none⟩) :: Value.pointer (some ⟨p, 0, none⟩) :: Value.pointer (some ⟨p, 320, none⟩) :: Value.agg #[.int .i32 0, .int .i32 0] :: Value.agg #[.nilIface, .pointer (some ⟨g, 0, none⟩), .string tx15_4, .bool false] :: Value.slice (some ⟨n, 0, none⟩) 1 1 :: undef :: undef :: undef :: undef :: undef :: undef :: undef :: undef :: undef :: undef :: undef :: undef :: undef :: undef :: undef :: undef :: undef :: undef :: undef :: undef :: undef :: undef :: undef :: undef :: undef :: undef :: undef :: undef :: undef :: undef :: undef :: undef :: undef :: undef :: undef :: undef :: undef :: undef :: undef :: undef :: undef :: undef :: undef :: undef :: undef :: undef :: undef :: undef :: undef :: undef :: undef :: undef :: undef :: undef :: undef :: undef :: undef :: undef :: undef :: []), []⟩ W') : (Code.region 4 rg15_4.toArray true).wp Tryf.prog Q ⟨List.toArray (Value.pointer (some ⟨p, 0, none⟩) :: Value.pointer (some ⟨sc, 0, none⟩) :: undef :: undef :: Value.string ⟨#[105, 110, 32, 115, 116, 114, 105, 99, 116, 32, 109, 111, 100, 101]⟩ :: Value.slice none 0 0 :: undef :: undef :: Value.pointer (some ⟨sc, 0, none⟩) :: Value.pointer (some ⟨sc, 0, none⟩) :: Value.pointer (some ⟨sc, 14, none⟩) :: Value.int .u8 2 :: Value.bool true :: Value.bool true :: undef :: undef :: undef :: undef :: undef :: undef :: undef :: undef :: undef :: undef :: undef :: undef :: undef :: undef :: undef :: undef :: undef :: undef :: undef :: undef :: undef :: undef :: undef :: undef :: undef :: undef :: undef :: undef :: undef :: undef :: undef :: undef :: undef :: undef :: undef :: undef :: undef :: undef :: undef :: undef :: undef :: undef :: undef :: undef :: undef :: undef :: undef :: undef :: undef :: undef :: undef :: undef :: undef :: undef :: undef :: undef :: undef :: undef :: undef :: undef :: undef :: undef :: undef :: undef :: undef :: undef :: undef :: undef :: []), []⟩ W := by
  have hz : B ≤ W.heap.size := by obtain ⟨cs, b, r, _⟩ := hS; exact Nat.le_trans hB (Nat.le_of_lt r.lt)
  have hF0 : Fp p W W.drew := fun _ _ _ _ r => r.drewN 1
  have hb0 : Below B W W.drew := below_drewN (Below.refl _ _) 1
  obtain ⟨W1, hW1⟩ : ∃ W1, W1 = W.drew := ⟨_, rfl⟩
  refine held_begin (N := 10) (S := (PS p k mu he ms sc ts fm kd)) (a' := frAct (Bs15_4 p sc) (Vs15_4 p sc 0 0) 14 0) (by kernel_rfl) (by kernel_rfl) (by kernel_rfl) (show (PS p k mu he ms sc ts fm kd) W.drew from hS) (fun hS => ?_)
  rw [← hW1] at hF0 hb0 hS ⊢
  refine held_to (a' := frAct (Bs15_4 p sc) (Vs15_4 p sc 0 0) 14 1) 0 10 (d := some 14) (v := .pointer (some ⟨p, 0, none⟩)) (by kernel_rfl) (by kernel_rfl) sel15_4 (ok15_4 0 (by omega)) (fun c a w => hQ c a (some 14) _ w) (by kernel_rfl) (fun _ _ => by kernel_rfl) hS (by kernel_rfl) ?_
  refine held_to (a' := frAct (Bs15_4 p sc) (Vs15_4 p sc 0 0) 14 2) 1 10 (d := some 15) (v := .pointer (some ⟨p, 0, none⟩)) (by kernel_rfl) (by kernel_rfl) sel15_4 (ok15_4 1 (by omega)) (fun c a w => hQ c a (some 15) _ w) (by kernel_rfl) (fun _ _ => by kernel_rfl) hS (by kernel_rfl) ?_
  refine held_to (a' := frAct (Bs15_4 p sc) (Vs15_4 p sc 0 0) 14 3) 2 10 (d := some 16) (v := .pointer (some ⟨p, 67, none⟩)) (by kernel_rfl) (by kernel_rfl) sel15_4 (ok15_4 2 (by omega)) (fun c a w => hQ c a (some 16) _ w) (by kernel_rfl) (fun _ _ => by kernel_rfl) hS (by kernel_rfl) ?_
  refine held_to (a' := frAct (Bs15_4 p sc) (Vs15_4 p sc 0 0) 14 4) 3 10 (d := some 17) (v := .pointer (some ⟨p, 0, none⟩)) (by kernel_rfl) (by kernel_rfl) sel15_4 (ok15_4 3 (by omega)) (fun c a w => hQ c a (some 17) _ w) (by kernel_rfl) (fun _ _ => by kernel_rfl) hS (by kernel_rfl) ?_
  refine held_to (a' := frAct (Bs15_4 p sc) (Vs15_4 p sc 0 0) 14 5) 4 10 (d := some 18) (v := .pointer (some ⟨p, 0, none⟩)) (by kernel_rfl) (by kernel_rfl) sel15_4 (ok15_4 4 (by omega)) (fun c a w => hQ c a (some 18) _ w) (by kernel_rfl) (fun _ _ => by kernel_rfl) hS (by kernel_rfl) ?_
  refine held_to (a' := frAct (Bs15_4 p sc) (Vs15_4 p sc 0 0) 14 6) 5 10 (d := some 19) (v := .pointer (some ⟨p, 320, none⟩)) (by kernel_rfl) (by kernel_rfl) sel15_4 (ok15_4 5 (by omega)) (fun c a w => hQ c a (some 19) _ w) (by kernel_rfl) (fun _ _ => by kernel_rfl) hS (by kernel_rfl) ?_
  refine held_to (a' := frAct (Bs15_4 p sc) (Vs15_4 p sc 0 0) 14 7) 6 10 (d := some 20) (v := .agg #[.int .i32 0, .int .i32 0]) (by kernel_rfl) (by kernel_rfl) sel15_4 (ok15_4 6 (by omega)) (fun c a w => hQ c a (some 20) _ w) (by kernel_rfl) (fun _ hS => run_ld (T := 41) (x := .tmp 19) (by kernel_rfl) (by kernel_rfl) (ps_320 hS)) hS (by kernel_rfl) ?_
  refine held_ready1 7 (by kernel_rfl) (by kernel_rfl) (by kernel_rfl) ?_
  refine wp_enter (d := some 21) (f := 26) (args := #[.pointer (some ⟨p, 67, none⟩), .agg #[.int .i32 0, .int .i32 0], .string tx15_4]) (by kernel_rfl) (by kernel_rfl) ?_
  obtain ⟨cs, b, r, h1, h2, h3, h4, h5⟩ := hS
  refine (data26_0 p 67 166 B b tx15_4 cs W1 r h1 h2 hB).mono ?_
  rintro e2 w2 ⟨⟨g, rfl⟩, r2, f2, b2⟩
  have hS2 : PS p k mu he ms sc ts fm kd w2 := PS.tracked r2 f2 h1 b h2 h3 r h4 h5
  have hF2 := hF0.trans f2
  have hb2 := hb0.trans b2
  refine ⟨_, rfl, hS2, ?_⟩
  rw [Lk_succ, show (frAct (Bs15_4 p sc) (Vs15_4 p sc 0 0) 14 7).put (some 21) (.agg #[.nilIface, .pointer (some ⟨g, 0, none⟩), .string tx15_4, .bool false]) = frAct (Bs15_4 p sc) (Vs15_4 p sc g 0) 14 8 from by kernel_rfl]
  refine held_ready1 8 (by kernel_rfl) (by kernel_rfl) (by kernel_rfl) ?_
  refine wp_value (d := some 22) (v := .slice (some ⟨w2.heap.size, 0, none⟩) 1 1) (w' := w2.alloc (.cells #[.nilIface, .pointer (some ⟨g, 0, none⟩), .string tx15_4, .bool false] 30)) (by kernel_rfl) (by kernel_rfl) ?_
  have b3 : Below w2.heap.size w2 (w2.alloc (.cells #[.nilIface, .pointer (some ⟨g, 0, none⟩), .string tx15_4, .bool false] 30)) := (Below.refl _ _).alloc (Nat.le_refl _) _
  have hS3 := PS.later hS2 b3
  have hF3 := hF2.trans (Fp.below b3)
  have hb3 := hb2.trans (b3.mono (Nat.le_trans hz hb2.size))
  obtain ⟨w3, hw3⟩ : ∃ w3, w3 = w2.alloc (.cells #[.nilIface, .pointer (some ⟨g, 0, none⟩), .string tx15_4, .bool false] 30) := ⟨_, rfl⟩
  rw [← hw3] at b3 hS3 hb3 hF3 ⊢
  obtain ⟨n, hn⟩ : ∃ n, n = w2.heap.size := ⟨_, rfl⟩
  rw [← hn]
  refine ⟨hS3, ?_⟩
  rw [Lk_succ, show (frAct (Bs15_4 p sc) (Vs15_4 p sc g 0) 14 8).put (some 22) (.slice (some ⟨n, 0, none⟩) 1 1) = frAct (Bs15_4 p sc) (Vs15_4 p sc g n) 14 9 from by kernel_rfl]
  refine held_ready1 9 (by kernel_rfl) (by kernel_rfl) (by kernel_rfl) ?_
  refine wp_value (d := some 5) (v := .slice (some ⟨n, 0, none⟩) 1 1) (w' := w3) (by kernel_rfl) (by kernel_rfl) ?_
  refine ⟨hS3, ?_⟩
  rw [Lk_succ]
  exact held_done (by kernel_rfl) (by kernel_rfl) (hend g n w3 hS3 hF3 hb3)
noncomputable def rg15_12 : List Oper := rgAt Tryf.f15 12
theorem ok15_12_0 : ((List.range 10).all fun i => stepOk rg15_12.toArray 14 (0 + i)) = true := by kernel_rfl
theorem ok15_12 (j : Nat) (h : j < 10) : stepOk rg15_12.toArray 14 j = true := by
  exact chunk ok15_12_0 j (by omega) (by omega)
theorem sel15_12 : Region.noSelect rg15_12.toArray = true := by kernel_rfl
noncomputable def tx15_12 : ByteArray := callTx (rg15_12.getD 11 noOper) 2
def Bs15_12 (p sc : Nat) : List Value := [.pointer (some ⟨p, 0, none⟩), .pointer (some ⟨sc, 0, none⟩), undef, undef, .string ⟨#[105, 110, 32, 115, 116, 114, 105, 99, 116, 32, 109, 111, 100, 101]⟩, .slice none 0 0, undef, undef, .pointer (some ⟨sc, 0, none⟩), .pointer (some ⟨sc, 0, none⟩), .pointer (some ⟨sc, 14, none⟩), .int .u8 1, .bool false, .bool false, undef, undef, undef, undef, undef, undef, undef, undef, undef, .bool false, .bool false, undef, undef, undef, undef, undef, undef, undef, undef, undef, undef, undef, undef, undef, undef, undef, undef, undef, undef, undef, undef, undef, undef, .bool false, .bool false, undef, undef, undef, undef, undef, undef, undef, undef, undef, undef, undef, .bool true, .bool true, undef, undef, undef, undef, undef, undef, undef, undef, undef, undef, undef, undef, undef, undef, undef, undef, undef, undef, undef, undef]
noncomputable def Vs15_12 (p sc g n : Nat) : List Value := [.pointer (some ⟨p, 0, none⟩), .pointer (some ⟨p, 0, none⟩), .pointer (some ⟨p, 67, none⟩), .pointer (some ⟨p, 0, none⟩), .pointer (some ⟨p, 0, none⟩), .pointer (some ⟨p, 57, none⟩), .pointer (some ⟨sc, 0, none⟩), .pointer (some ⟨sc, 0, none⟩), .pointer (some ⟨sc, 6, none⟩), .agg #[.int .i32 0], .agg #[.int .i32 0, .int .i32 0], .agg #[.nilIface, .pointer (some ⟨g, 0, none⟩), .string tx15_12, .bool false], .slice (some ⟨n, 0, none⟩) 1 1]
theorem rgn15_12 {Q : Exit → Act → World → Prop} (hQ : ∀ c a d v w, Q (.panic c) (a.put d v) w → Q (.panic c) a w) (p k mu he ms sc ts : Nat) (fm kd : Int) (B : Nat) (W : World) (hB : B ≤ p) (hS : PS p k mu he ms sc ts fm kd W) 
    (hend : ∀ g n W', PS p k mu he ms sc ts fm kd W' → Fp p W W' → Below B W W' → Q .normal ⟨List.toArray (Value.pointer (some ⟨p, 0, none⟩) :: Value.pointer (some ⟨sc, 0, none⟩) :: undef :: undef :: Value.string ⟨#[105, 110, 32, 115, 116, 114, 105, 99, 116, 32, 109, 111, 100, 101]⟩ :: Value.slice (some ⟨n, 0, none⟩) 1 1 :: undef :: undef :: Value.pointer (some ⟨sc, 0, none⟩) :: Value.pointer (some ⟨sc, 0, none⟩) :: Value.pointer (some ⟨sc, 14, none⟩) :: Value.int .u8 1 :: Value.bool false :: Value.bool false :: undef :: undef :: undef :: undef :: undef :: undef :: undef :: undef :: undef :: Value.bool false :: Value.bool false :: undef :: undef :: undef :: undef :: undef :: undef :: undef :: undef :: undef :: undef :: undef :: undef :: undef :: undef :: undef :: undef :: undef :: undef :: undef :: undef :: undef :: undef :: Value.bool false :: Value.bool false :: undef :: undef :: undef :: undef :: undef :: undef :: undef :: undef :: undef :: undef :: undef :: Value.bool true :: Value.bool true :: Value.pointer (some ⟨p, 0, none⟩) :: Value.pointer (some ⟨p, 0, none⟩) :: Value.pointer (some ⟨p, 67, none⟩) :: Value.pointer (some ⟨p, 0, none⟩) :: Value.pointer (some ⟨p, 0, none⟩) :: Value.pointer (some ⟨p, 57, none⟩) :: Value.pointer (some ⟨sc, 0, none⟩) :: Value.pointer (some ⟨sc, 0, none⟩) :: Value.pointer (some ⟨sc, 6, none⟩) :: Value.agg #[.int .i32 0] :: Value.agg #[.int .i32 0, .int .i32 0] :: Value.agg #[.nilIface, .pointer (some ⟨g, 0, none⟩), .string tx15_12, .bool false] :: Value.slice (some ⟨n, 0, none⟩) 1 1 :: undef :: undef :: undef :: undef :: undef :: undef :: undef :: []), []⟩ W') : (Code.region 12 rg15_12.toArray true).wp Tryf.prog Q ⟨List.toArray (Value.pointer (some ⟨p, 0, none⟩) :: Value.pointer (some ⟨sc, 0, none⟩) :: undef :: undef :: Value.string ⟨#[105, 110, 32, 115, 116, 114, 105, 99, 116, 32, 109, 111, 100, 101]⟩ :: Value.slice none 0 0 :: undef :: undef :: Value.pointer (some ⟨sc, 0, none⟩) :: Value.pointer (some ⟨sc, 0, none⟩) :: Value.pointer (some ⟨sc, 14, none⟩) :: Value.int .u8 1 :: Value.bool false :: Value.bool false :: undef :: undef :: undef :: undef :: undef :: undef :: undef :: undef :: undef :: Value.bool false :: Value.bool false :: undef :: undef :: undef :: undef :: undef :: undef :: undef :: undef :: undef :: undef :: undef :: undef :: undef :: undef :: undef :: undef :: undef :: undef :: undef :: undef :: undef :: undef :: Value.bool false :: Value.bool false :: undef :: undef :: undef :: undef :: undef :: undef :: undef :: undef :: undef :: undef :: undef :: Value.bool true :: Value.bool true :: undef :: undef :: undef :: undef :: undef :: undef :: undef :: undef :: undef :: undef :: undef :: undef :: undef :: undef :: undef :: undef :: undef :: undef :: undef :: undef :: []), []⟩ W := by
  have hz : B ≤ W.heap.size := by obtain ⟨cs, b, r, _⟩ := hS; exact Nat.le_trans hB (Nat.le_of_lt r.lt)
  have hF0 : Fp p W W.drew := fun _ _ _ _ r => r.drewN 1
  have hb0 : Below B W W.drew := below_drewN (Below.refl _ _) 1
  obtain ⟨W1, hW1⟩ : ∃ W1, W1 = W.drew := ⟨_, rfl⟩
  refine held_begin (N := 14) (S := (PS p k mu he ms sc ts fm kd)) (a' := frAct (Bs15_12 p sc) (Vs15_12 p sc 0 0) 62 0) (by kernel_rfl) (by kernel_rfl) (by kernel_rfl) (show (PS p k mu he ms sc ts fm kd) W.drew from hS) (fun hS => ?_)
  rw [← hW1] at hF0 hb0 hS ⊢
  refine held_to (a' := frAct (Bs15_12 p sc) (Vs15_12 p sc 0 0) 62 1) 0 14 (d := some 62) (v := .pointer (some ⟨p, 0, none⟩)) (by kernel_rfl) (by kernel_rfl) sel15_12 (ok15_12 0 (by omega)) (fun c a w => hQ c a (some 62) _ w) (by kernel_rfl) (fun _ _ => by kernel_rfl) hS (by kernel_rfl) ?_
  refine held_to (a' := frAct (Bs15_12 p sc) (Vs15_12 p sc 0 0) 62 2) 1 14 (d := some 63) (v := .pointer (some ⟨p, 0, none⟩)) (by kernel_rfl) (by kernel_rfl) sel15_12 (ok15_12 1 (by omega)) (fun c a w => hQ c a (some 63) _ w) (by kernel_rfl) (fun _ _ => by kernel_rfl) hS (by kernel_rfl) ?_
  refine held_to (a' := frAct (Bs15_12 p sc) (Vs15_12 p sc 0 0) 62 3) 2 14 (d := some 64) (v := .pointer (some ⟨p, 67, none⟩)) (by kernel_rfl) (by kernel_rfl) sel15_12 (ok15_12 2 (by omega)) (fun c a w => hQ c a (some 64) _ w) (by kernel_rfl) (fun _ _ => by kernel_rfl) hS (by kernel_rfl) ?_
  refine held_to (a' := frAct (Bs15_12 p sc) (Vs15_12 p sc 0 0) 62 4) 3 14 (d := some 65) (v := .pointer (some ⟨p, 0, none⟩)) (by kernel_rfl) (by kernel_rfl) sel15_12 (ok15_12 3 (by omega)) (fun c a w => hQ c a (some 65) _ w) (by kernel_rfl) (fun _ _ => by kernel_rfl) hS (by kernel_rfl) ?_
  refine held_to (a' := frAct (Bs15_12 p sc) (Vs15_12 p sc 0 0) 62 5) 4 14 (d := some 66) (v := .pointer (some ⟨p, 0, none⟩)) (by kernel_rfl) (by kernel_rfl) sel15_12 (ok15_12 4 (by omega)) (fun c a w => hQ c a (some 66) _ w) (by kernel_rfl) (fun _ _ => by kernel_rfl) hS (by kernel_rfl) ?_
  refine held_to (a' := frAct (Bs15_12 p sc) (Vs15_12 p sc 0 0) 62 6) 5 14 (d := some 67) (v := .pointer (some ⟨p, 57, none⟩)) (by kernel_rfl) (by kernel_rfl) sel15_12 (ok15_12 5 (by omega)) (fun c a w => hQ c a (some 67) _ w) (by kernel_rfl) (fun _ _ => by kernel_rfl) hS (by kernel_rfl) ?_
  refine held_to (a' := frAct (Bs15_12 p sc) (Vs15_12 p sc 0 0) 62 7) 6 14 (d := some 68) (v := .pointer (some ⟨sc, 0, none⟩)) (by kernel_rfl) (by kernel_rfl) sel15_12 (ok15_12 6 (by omega)) (fun c a w => hQ c a (some 68) _ w) (by kernel_rfl) (fun _ _ => by kernel_rfl) hS (by kernel_rfl) ?_
  refine held_to (a' := frAct (Bs15_12 p sc) (Vs15_12 p sc 0 0) 62 8) 7 14 (d := some 69) (v := .pointer (some ⟨sc, 0, none⟩)) (by kernel_rfl) (by kernel_rfl) sel15_12 (ok15_12 7 (by omega)) (fun c a w => hQ c a (some 69) _ w) (by kernel_rfl) (fun _ _ => by kernel_rfl) hS (by kernel_rfl) ?_
  refine held_to (a' := frAct (Bs15_12 p sc) (Vs15_12 p sc 0 0) 62 9) 8 14 (d := some 70) (v := .pointer (some ⟨sc, 6, none⟩)) (by kernel_rfl) (by kernel_rfl) sel15_12 (ok15_12 8 (by omega)) (fun c a w => hQ c a (some 70) _ w) (by kernel_rfl) (fun _ _ => by kernel_rfl) hS (by kernel_rfl) ?_
  refine held_to (a' := frAct (Bs15_12 p sc) (Vs15_12 p sc 0 0) 62 10) 9 14 (d := some 71) (v := .agg #[.int .i32 0]) (by kernel_rfl) (by kernel_rfl) sel15_12 (ok15_12 9 (by omega)) (fun c a w => hQ c a (some 71) _ w) (by kernel_rfl) (fun _ hS => run_ld (T := 39) (x := .tmp 70) (by kernel_rfl) (by kernel_rfl) (ps_use hS)) hS (by kernel_rfl) ?_
  refine held_ready1 10 (by kernel_rfl) (by kernel_rfl) (by kernel_rfl) ?_
  refine wp_enter (d := some 72) (f := 27) (args := #[.pointer (some ⟨p, 57, none⟩), .agg #[.int .i32 0]]) (by kernel_rfl) (by kernel_rfl) ?_
  refine (rng27 p k mu he ms sc ts fm kd W1 hS).mono ?_
  rintro e5 w5 ⟨rfl, b5⟩
  have hS5 := PS.later hS b5
  have hF5 := hF0.trans (Fp.below b5)
  have hb5 := hb0.trans (b5.mono (Nat.le_trans hz hb0.size))
  refine ⟨_, rfl, hS5, ?_⟩
  rw [Lk_succ, show (frAct (Bs15_12 p sc) (Vs15_12 p sc 0 0) 62 10).put (some 72) (.agg #[.int .i32 0, .int .i32 0]) = frAct (Bs15_12 p sc) (Vs15_12 p sc 0 0) 62 11 from by kernel_rfl]
  refine held_ready1 11 (by kernel_rfl) (by kernel_rfl) (by kernel_rfl) ?_
  refine wp_enter (d := some 73) (f := 26) (args := #[.pointer (some ⟨p, 67, none⟩), .agg #[.int .i32 0, .int .i32 0], .string tx15_12]) (by kernel_rfl) (by kernel_rfl) ?_
  obtain ⟨cs, b, r, h1, h2, h3, h4, h5⟩ := hS5
  refine (data26_0 p 67 166 B b tx15_12 cs w5 r h1 h2 hB).mono ?_
  rintro e2 w2 ⟨⟨g, rfl⟩, r2, f2, b2⟩
  have hS2 : PS p k mu he ms sc ts fm kd w2 := PS.tracked r2 f2 h1 b h2 h3 r h4 h5
  have hF2 := hF5.trans f2
  have hb2 := hb5.trans b2
  refine ⟨_, rfl, hS2, ?_⟩
  rw [Lk_succ, show (frAct (Bs15_12 p sc) (Vs15_12 p sc 0 0) 62 11).put (some 73) (.agg #[.nilIface, .pointer (some ⟨g, 0, none⟩), .string tx15_12, .bool false]) = frAct (Bs15_12 p sc) (Vs15_12 p sc g 0) 62 12 from by kernel_rfl]
  refine held_ready1 12 (by kernel_rfl) (by kernel_rfl) (by kernel_rfl) ?_
  refine wp_value (d := some 74) (v := .slice (some ⟨w2.heap.size, 0, none⟩) 1 1) (w' := w2.alloc (.cells #[.nilIface, .pointer (some ⟨g, 0, none⟩), .string tx15_12, .bool false] 30)) (by kernel_rfl) (by kernel_rfl) ?_
  have b3 : Below w2.heap.size w2 (w2.alloc (.cells #[.nilIface, .pointer (some ⟨g, 0, none⟩), .string tx15_12, .bool false] 30)) := (Below.refl _ _).alloc (Nat.le_refl _) _
  have hS3 := PS.later hS2 b3
  have hF3 := hF2.trans (Fp.below b3)
  have hb3 := hb2.trans (b3.mono (Nat.le_trans hz hb2.size))
  obtain ⟨w3, hw3⟩ : ∃ w3, w3 = w2.alloc (.cells #[.nilIface, .pointer (some ⟨g, 0, none⟩), .string tx15_12, .bool false] 30) := ⟨_, rfl⟩
  rw [← hw3] at b3 hS3 hb3 hF3 ⊢
  obtain ⟨n, hn⟩ : ∃ n, n = w2.heap.size := ⟨_, rfl⟩
  rw [← hn]
  refine ⟨hS3, ?_⟩
  rw [Lk_succ, show (frAct (Bs15_12 p sc) (Vs15_12 p sc g 0) 62 12).put (some 74) (.slice (some ⟨n, 0, none⟩) 1 1) = frAct (Bs15_12 p sc) (Vs15_12 p sc g n) 62 13 from by kernel_rfl]
  refine held_ready1 13 (by kernel_rfl) (by kernel_rfl) (by kernel_rfl) ?_
  refine wp_value (d := some 5) (v := .slice (some ⟨n, 0, none⟩) 1 1) (w' := w3) (by kernel_rfl) (by kernel_rfl) ?_
  refine ⟨hS3, ?_⟩
  rw [Lk_succ]
  exact held_done (by kernel_rfl) (by kernel_rfl) (hend g n w3 hS3 hF3 hb3)
noncomputable def rg15_10 : List Oper := rgAt Tryf.f15 10
theorem ok15_10_0 : ((List.range 8).all fun i => stepOk rg15_10.toArray 12 (0 + i)) = true := by kernel_rfl
theorem ok15_10 (j : Nat) (h : j < 8) : stepOk rg15_10.toArray 12 j = true := by
  exact chunk ok15_10_0 j (by omega) (by omega)
theorem sel15_10 : Region.noSelect rg15_10.toArray = true := by kernel_rfl
noncomputable def tx15_10 : ByteArray := callTx (rg15_10.getD 8 noOper) 2
noncomputable def ty15_10 : ByteArray := buildTx (rg15_10.getD 9 noOper)
def Bs15_10 (p sc : Nat) : List Value := [.pointer (some ⟨p, 0, none⟩), .pointer (some ⟨sc, 0, none⟩), undef, undef, .string ⟨#[105, 110, 32, 115, 116, 114, 105, 99, 116, 32, 109, 111, 100, 101]⟩, .slice none 0 0, undef, undef, .pointer (some ⟨sc, 0, none⟩), .pointer (some ⟨sc, 0, none⟩), .pointer (some ⟨sc, 14, none⟩), .int .u8 5, .bool false, .bool false, undef, undef, undef, undef, undef, undef, undef, undef, undef, .bool false, .bool false, undef, undef, undef, undef, undef, undef, undef, undef, undef, undef, undef, undef, undef, undef, undef, undef, undef, undef, undef, undef, undef, undef, .bool true, .bool true, undef, undef, undef, undef, undef, undef, undef, undef, undef, undef, undef, undef, undef, undef, undef, undef, undef, undef, undef, undef, undef, undef, undef, undef, undef, undef, undef, undef, undef, undef, undef, undef, undef]
noncomputable def Bx15_10 (p sc : Nat) : List Value := [.pointer (some ⟨p, 0, none⟩), .pointer (some ⟨sc, 0, none⟩), undef, undef, .string ⟨#[105, 110, 32, 115, 116, 114, 105, 99, 116, 32, 109, 111, 100, 101]⟩, .slice none 0 0, undef, undef, .pointer (some ⟨sc, 0, none⟩), .pointer (some ⟨sc, 0, none⟩), .pointer (some ⟨sc, 14, none⟩), .int .u8 5, .bool false, .bool false, undef, undef, undef, undef, undef, undef, undef, undef, undef, .bool false, .bool false, undef, undef, undef, undef, undef, undef, undef, undef, undef, undef, undef, undef, undef, undef, undef, undef, undef, undef, undef, undef, undef, undef, .bool true, .bool true, undef, undef, undef, undef, undef, undef, undef, undef, undef, .agg #[.nilIface, .pointer none, .string ty15_10, .bool false], undef, undef, undef, undef, undef, undef, undef, undef, undef, undef, undef, undef, undef, undef, undef, undef, undef, undef, undef, undef, undef, undef, undef]
noncomputable def Vs15_10 (p sc g n : Nat) : List Value := [.pointer (some ⟨p, 0, none⟩), .pointer (some ⟨p, 0, none⟩), .pointer (some ⟨p, 67, none⟩), .pointer (some ⟨p, 0, none⟩), .pointer (some ⟨p, 0, none⟩), .pointer (some ⟨p, 328, none⟩), .agg #[.int .i32 0], .agg #[.int .i32 0, .int .i32 1], .agg #[.nilIface, .pointer (some ⟨g, 0, none⟩), .string tx15_10, .bool false], .agg #[.nilIface, .pointer none, .string ty15_10, .bool false], .slice (some ⟨n, 0, none⟩) 2 2]
theorem rgn15_10 {Q : Exit → Act → World → Prop} (hQ : ∀ c a d v w, Q (.panic c) (a.put d v) w → Q (.panic c) a w) (p k mu he ms sc ts : Nat) (fm kd : Int) (B : Nat) (W : World) (hB : B ≤ p) (hS : PS p k mu he ms sc ts fm kd W) 
    (hend : ∀ g n W', PS p k mu he ms sc ts fm kd W' → Fp p W W' → Below B W W' → Q .normal ⟨List.toArray (Value.pointer (some ⟨p, 0, none⟩) :: Value.pointer (some ⟨sc, 0, none⟩) :: undef :: undef :: Value.string ⟨#[105, 110, 32, 115, 116, 114, 105, 99, 116, 32, 109, 111, 100, 101]⟩ :: Value.slice (some ⟨n, 0, none⟩) 2 2 :: undef :: undef :: Value.pointer (some ⟨sc, 0, none⟩) :: Value.pointer (some ⟨sc, 0, none⟩) :: Value.pointer (some ⟨sc, 14, none⟩) :: Value.int .u8 5 :: Value.bool false :: Value.bool false :: undef :: undef :: undef :: undef :: undef :: undef :: undef :: undef :: undef :: Value.bool false :: Value.bool false :: undef :: undef :: undef :: undef :: undef :: undef :: undef :: undef :: undef :: undef :: undef :: undef :: undef :: undef :: undef :: undef :: undef :: undef :: undef :: undef :: undef :: undef :: Value.bool true :: Value.bool true :: Value.pointer (some ⟨p, 0, none⟩) :: Value.pointer (some ⟨p, 0, none⟩) :: Value.pointer (some ⟨p, 67, none⟩) :: Value.pointer (some ⟨p, 0, none⟩) :: Value.pointer (some ⟨p, 0, none⟩) :: Value.pointer (some ⟨p, 328, none⟩) :: Value.agg #[.int .i32 0] :: Value.agg #[.int .i32 0, .int .i32 1] :: Value.agg #[.nilIface, .pointer (some ⟨g, 0, none⟩), .string tx15_10, .bool false] :: Value.agg #[.nilIface, .pointer none, .string ty15_10, .bool false] :: Value.slice (some ⟨n, 0, none⟩) 2 2 :: undef :: undef :: undef :: undef :: undef :: undef :: undef :: undef :: undef :: undef :: undef :: undef :: undef :: undef :: undef :: undef :: undef :: undef :: undef :: undef :: undef :: undef :: []), []⟩ W') : (Code.region 10 rg15_10.toArray true).wp Tryf.prog Q ⟨List.toArray (Value.pointer (some ⟨p, 0, none⟩) :: Value.pointer (some ⟨sc, 0, none⟩) :: undef :: undef :: Value.string ⟨#[105, 110, 32, 115, 116, 114, 105, 99, 116, 32, 109, 111, 100, 101]⟩ :: Value.slice none 0 0 :: undef :: undef :: Value.pointer (some ⟨sc, 0, none⟩) :: Value.pointer (some ⟨sc, 0, none⟩) :: Value.pointer (some ⟨sc, 14, none⟩) :: Value.int .u8 5 :: Value.bool false :: Value.bool false :: undef :: undef :: undef :: undef :: undef :: undef :: undef :: undef :: undef :: Value.bool false :: Value.bool false :: undef :: undef :: undef :: undef :: undef :: undef :: undef :: undef :: undef :: undef :: undef :: undef :: undef :: undef :: undef :: undef :: undef :: undef :: undef :: undef :: undef :: undef :: Value.bool true :: Value.bool true :: undef :: undef :: undef :: undef :: undef :: undef :: undef :: undef :: undef :: undef :: undef :: undef :: undef :: undef :: undef :: undef :: undef :: undef :: undef :: undef :: undef :: undef :: undef :: undef :: undef :: undef :: undef :: undef :: undef :: undef :: undef :: undef :: undef :: []), []⟩ W := by
  have hz : B ≤ W.heap.size := by obtain ⟨cs, b, r, _⟩ := hS; exact Nat.le_trans hB (Nat.le_of_lt r.lt)
  have hF0 : Fp p W W.drew := fun _ _ _ _ r => r.drewN 1
  have hb0 : Below B W W.drew := below_drewN (Below.refl _ _) 1
  obtain ⟨W1, hW1⟩ : ∃ W1, W1 = W.drew := ⟨_, rfl⟩
  refine held_begin (N := 12) (S := (PS p k mu he ms sc ts fm kd)) (a' := frAct (Bs15_10 p sc) (Vs15_10 p sc 0 0) 49 0) (by kernel_rfl) (by kernel_rfl) (by kernel_rfl) (show (PS p k mu he ms sc ts fm kd) W.drew from hS) (fun hS => ?_)
  rw [← hW1] at hF0 hb0 hS ⊢
  refine held_to (a' := frAct (Bs15_10 p sc) (Vs15_10 p sc 0 0) 49 1) 0 12 (d := some 49) (v := .pointer (some ⟨p, 0, none⟩)) (by kernel_rfl) (by kernel_rfl) sel15_10 (ok15_10 0 (by omega)) (fun c a w => hQ c a (some 49) _ w) (by kernel_rfl) (fun _ _ => by kernel_rfl) hS (by kernel_rfl) ?_
  refine held_to (a' := frAct (Bs15_10 p sc) (Vs15_10 p sc 0 0) 49 2) 1 12 (d := some 50) (v := .pointer (some ⟨p, 0, none⟩)) (by kernel_rfl) (by kernel_rfl) sel15_10 (ok15_10 1 (by omega)) (fun c a w => hQ c a (some 50) _ w) (by kernel_rfl) (fun _ _ => by kernel_rfl) hS (by kernel_rfl) ?_
  refine held_to (a' := frAct (Bs15_10 p sc) (Vs15_10 p sc 0 0) 49 3) 2 12 (d := some 51) (v := .pointer (some ⟨p, 67, none⟩)) (by kernel_rfl) (by kernel_rfl) sel15_10 (ok15_10 2 (by omega)) (fun c a w => hQ c a (some 51) _ w) (by kernel_rfl) (fun _ _ => by kernel_rfl) hS (by kernel_rfl) ?_
  refine held_to (a' := frAct (Bs15_10 p sc) (Vs15_10 p sc 0 0) 49 4) 3 12 (d := some 52) (v := .pointer (some ⟨p, 0, none⟩)) (by kernel_rfl) (by kernel_rfl) sel15_10 (ok15_10 3 (by omega)) (fun c a w => hQ c a (some 52) _ w) (by kernel_rfl) (fun _ _ => by kernel_rfl) hS (by kernel_rfl) ?_
  refine held_to (a' := frAct (Bs15_10 p sc) (Vs15_10 p sc 0 0) 49 5) 4 12 (d := some 53) (v := .pointer (some ⟨p, 0, none⟩)) (by kernel_rfl) (by kernel_rfl) sel15_10 (ok15_10 4 (by omega)) (fun c a w => hQ c a (some 53) _ w) (by kernel_rfl) (fun _ _ => by kernel_rfl) hS (by kernel_rfl) ?_
  refine held_to (a' := frAct (Bs15_10 p sc) (Vs15_10 p sc 0 0) 49 6) 5 12 (d := some 54) (v := .pointer (some ⟨p, 328, none⟩)) (by kernel_rfl) (by kernel_rfl) sel15_10 (ok15_10 5 (by omega)) (fun c a w => hQ c a (some 54) _ w) (by kernel_rfl) (fun _ _ => by kernel_rfl) hS (by kernel_rfl) ?_
  refine held_to (a' := frAct (Bs15_10 p sc) (Vs15_10 p sc 0 0) 49 7) 6 12 (d := some 55) (v := .agg #[.int .i32 0]) (by kernel_rfl) (by kernel_rfl) sel15_10 (ok15_10 6 (by omega)) (fun c a w => hQ c a (some 55) _ w) (by kernel_rfl) (fun _ hS => run_ld (T := 39) (x := .tmp 54) (by kernel_rfl) (by kernel_rfl) (ps_328 hS)) hS (by kernel_rfl) ?_
  refine held_to (a' := frAct (Bs15_10 p sc) (Vs15_10 p sc 0 0) 49 8) 7 12 (d := some 56) (v := .agg #[.int .i32 0, .int .i32 1]) (by kernel_rfl) (by kernel_rfl) sel15_10 (ok15_10 7 (by omega)) (fun c a w => hQ c a (some 56) _ w) (by kernel_rfl) (fun _ _ => by kernel_rfl) hS (by kernel_rfl) ?_
  refine held_at (a' := frAct (Bx15_10 p sc) (Vs15_10 p sc 0 0) 49 8) 9 (d := some 58) (v := .agg #[.nilIface, .pointer none, .string ty15_10, .bool false]) (by kernel_rfl) (by kernel_rfl) sel15_10 (by kernel_rfl) (by kernel_rfl) (fun c a w => hQ c a (some 58) _ w) (by kernel_rfl) (fun _ _ => by kernel_rfl) hS (by kernel_rfl) ?_
  refine held_ready1 8 (by kernel_rfl) (by kernel_rfl) (by kernel_rfl) ?_
  refine wp_enter (d := some 57) (f := 26) (args := #[.pointer (some ⟨p, 67, none⟩), .agg #[.int .i32 0, .int .i32 1], .string tx15_10]) (by kernel_rfl) (by kernel_rfl) ?_
  obtain ⟨cs, b, r, h1, h2, h3, h4, h5⟩ := hS
  refine (data26_1 p 67 166 B b tx15_10 cs W1 r h1 h2 hB).mono ?_
  rintro e2 w2 ⟨⟨g, rfl⟩, r2, f2, b2⟩
  have hS2 : PS p k mu he ms sc ts fm kd w2 := PS.tracked r2 f2 h1 b h2 h3 r h4 h5
  have hF2 := hF0.trans f2
  have hb2 := hb0.trans b2
  refine ⟨_, rfl, hS2, ?_⟩
  rw [show (((Lk 12 8).setIfInBounds 9 true).setIfInBounds 8 true) = Lk 12 10 from by kernel_rfl, show (frAct (Bx15_10 p sc) (Vs15_10 p sc 0 0) 49 8).put (some 57) (.agg #[.nilIface, .pointer (some ⟨g, 0, none⟩), .string tx15_10, .bool false]) = frAct (Bs15_10 p sc) (Vs15_10 p sc g 0) 49 10 from by kernel_rfl]
  refine held_ready1 10 (by kernel_rfl) (by kernel_rfl) (by kernel_rfl) ?_
  refine wp_value (d := some 59) (v := .slice (some ⟨w2.heap.size, 0, none⟩) 2 2) (w' := w2.alloc (.cells #[.nilIface, .pointer (some ⟨g, 0, none⟩), .string tx15_10, .bool false, .nilIface, .pointer none, .string ty15_10, .bool false] 30)) (by kernel_rfl) (by kernel_rfl) ?_
  have b3 : Below w2.heap.size w2 (w2.alloc (.cells #[.nilIface, .pointer (some ⟨g, 0, none⟩), .string tx15_10, .bool false, .nilIface, .pointer none, .string ty15_10, .bool false] 30)) := (Below.refl _ _).alloc (Nat.le_refl _) _
  have hS3 := PS.later hS2 b3
  have hF3 := hF2.trans (Fp.below b3)
  have hb3 := hb2.trans (b3.mono (Nat.le_trans hz hb2.size))
  obtain ⟨w3, hw3⟩ : ∃ w3, w3 = w2.alloc (.cells #[.nilIface, .pointer (some ⟨g, 0, none⟩), .string tx15_10, .bool false, .nilIface, .pointer none, .string ty15_10, .bool false] 30) := ⟨_, rfl⟩
  rw [← hw3] at b3 hS3 hb3 hF3 ⊢
  obtain ⟨n, hn⟩ : ∃ n, n = w2.heap.size := ⟨_, rfl⟩
  rw [← hn]
  refine ⟨hS3, ?_⟩
  rw [Lk_succ, show (frAct (Bs15_10 p sc) (Vs15_10 p sc g 0) 49 10).put (some 59) (.slice (some ⟨n, 0, none⟩) 2 2) = frAct (Bs15_10 p sc) (Vs15_10 p sc g n) 49 11 from by kernel_rfl]
  refine held_ready1 11 (by kernel_rfl) (by kernel_rfl) (by kernel_rfl) ?_
  refine wp_value (d := some 5) (v := .slice (some ⟨n, 0, none⟩) 2 2) (w' := w3) (by kernel_rfl) (by kernel_rfl) ?_
  refine ⟨hS3, ?_⟩
  rw [Lk_succ]
  exact held_done (by kernel_rfl) (by kernel_rfl) (hend g n w3 hS3 hF3 hb3)
noncomputable def rg15_8 : List Oper := rgAt Tryf.f15 8
theorem ok15_8_0 : ((List.range 9).all fun i => stepOk rg15_8.toArray 14 (0 + i)) = true := by kernel_rfl
theorem ok15_8 (j : Nat) (h : j < 9) : stepOk rg15_8.toArray 14 j = true := by
  exact chunk ok15_8_0 j (by omega) (by omega)
theorem sel15_8 : Region.noSelect rg15_8.toArray = true := by kernel_rfl
def Bs15_8 (p sc ts t7 : Nat) : List Value := [.pointer (some ⟨p, 0, none⟩), .pointer (some ⟨sc, 0, none⟩), undef, undef, .string ⟨#[105, 110, 32, 115, 116, 114, 105, 99, 116, 32, 109, 111, 100, 101]⟩, .slice none 0 0, .pointer (some ⟨ts, 0, none⟩), .pointer (some ⟨t7, 0, none⟩), .pointer (some ⟨sc, 0, none⟩), .pointer (some ⟨sc, 0, none⟩), .pointer (some ⟨sc, 14, none⟩), .int .u8 4, .bool false, .bool false, undef, undef, undef, undef, undef, undef, undef, undef, undef, .bool true, .bool true, .pointer (some ⟨p, 0, none⟩), .pointer (some ⟨p, 0, none⟩), .pointer (some ⟨p, 0, none⟩), .pointer (some ⟨p, 13, none⟩), .pointer (some ⟨ts, 0, none⟩), .pointer (some ⟨ts, 0, none⟩), .pointer (some ⟨ts, 0, none⟩), .pointer (some ⟨ts, 1, none⟩), .agg trkV, undef, undef, undef, undef, undef, undef, undef, undef, undef, undef, undef, undef, undef, undef, undef, undef, undef, undef, undef, undef, undef, undef, undef, undef, undef, undef, undef, undef, undef, undef, undef, undef, undef, undef, undef, undef, undef, undef, undef, undef, undef, undef, undef, undef, undef, undef, undef, undef]
noncomputable def Vs15_8 (p sc ts t7 g n m : Nat) (tx : ByteArray) : List Value := [.pointer (some ⟨ts, 0, none⟩), .pointer (some ⟨ts, 0, none⟩), .pointer (some ⟨ts, 11, none⟩), .agg #[.int .i32 0, .int .i32 0], .pointer (some ⟨ts, 0, none⟩), .pointer (some ⟨ts, 0, none⟩), .pointer (some ⟨ts, 0, none⟩), .string ⟨#[]⟩, .iface 9 (.string ⟨#[]⟩), .slice (some ⟨m, 0, none⟩) 1 1, .string tx, .agg #[.nilIface, .pointer (some ⟨g, 0, none⟩), .string tx, .bool false], .slice (some ⟨n, 0, none⟩) 1 1]
theorem rgn15_8 (F : Interp) {Q : Exit → Act → World → Prop} (hQ : ∀ c a d v w, Q (.panic c) (a.put d v) w → Q (.panic c) a w) (p k mu he ms sc ts : Nat) (fm kd : Int) (B : Nat) (t7 : Nat) (W : World) (hB : B ≤ t7) (hF : F.answers W.tape) (hS : PS p k mu he ms sc ts fm kd W) (hT : Trk7 t7 W) 
    (hend : ∀ g n m tx W', PS p k mu he ms sc ts fm kd W' → Below B W W' → Q .normal ⟨List.toArray (Value.pointer (some ⟨p, 0, none⟩) :: Value.pointer (some ⟨sc, 0, none⟩) :: undef :: undef :: Value.string ⟨#[105, 110, 32, 115, 116, 114, 105, 99, 116, 32, 109, 111, 100, 101]⟩ :: Value.slice (some ⟨n, 0, none⟩) 1 1 :: Value.pointer (some ⟨ts, 0, none⟩) :: Value.pointer (some ⟨t7, 0, none⟩) :: Value.pointer (some ⟨sc, 0, none⟩) :: Value.pointer (some ⟨sc, 0, none⟩) :: Value.pointer (some ⟨sc, 14, none⟩) :: Value.int .u8 4 :: Value.bool false :: Value.bool false :: undef :: undef :: undef :: undef :: undef :: undef :: undef :: undef :: undef :: Value.bool true :: Value.bool true :: Value.pointer (some ⟨p, 0, none⟩) :: Value.pointer (some ⟨p, 0, none⟩) :: Value.pointer (some ⟨p, 0, none⟩) :: Value.pointer (some ⟨p, 13, none⟩) :: Value.pointer (some ⟨ts, 0, none⟩) :: Value.pointer (some ⟨ts, 0, none⟩) :: Value.pointer (some ⟨ts, 0, none⟩) :: Value.pointer (some ⟨ts, 1, none⟩) :: Value.agg trkV :: Value.pointer (some ⟨ts, 0, none⟩) :: Value.pointer (some ⟨ts, 0, none⟩) :: Value.pointer (some ⟨ts, 11, none⟩) :: Value.agg #[.int .i32 0, .int .i32 0] :: Value.pointer (some ⟨ts, 0, none⟩) :: Value.pointer (some ⟨ts, 0, none⟩) :: Value.pointer (some ⟨ts, 0, none⟩) :: Value.string ⟨#[]⟩ :: Value.iface 9 (.string ⟨#[]⟩) :: Value.slice (some ⟨m, 0, none⟩) 1 1 :: Value.string tx :: Value.agg #[.nilIface, .pointer (some ⟨g, 0, none⟩), .string tx, .bool false] :: Value.slice (some ⟨n, 0, none⟩) 1 1 :: undef :: undef :: undef :: undef :: undef :: undef :: undef :: undef :: undef :: undef :: undef :: undef :: undef :: undef :: undef :: undef :: undef :: undef :: undef :: undef :: undef :: undef :: undef :: undef :: undef :: undef :: undef :: undef :: undef :: undef :: undef :: undef :: undef :: undef :: undef :: []), []⟩ W') : (Code.region 8 rg15_8.toArray true).wp Tryf.prog Q ⟨List.toArray (Value.pointer (some ⟨p, 0, none⟩) :: Value.pointer (some ⟨sc, 0, none⟩) :: undef :: undef :: Value.string ⟨#[105, 110, 32, 115, 116, 114, 105, 99, 116, 32, 109, 111, 100, 101]⟩ :: Value.slice none 0 0 :: Value.pointer (some ⟨ts, 0, none⟩) :: Value.pointer (some ⟨t7, 0, none⟩) :: Value.pointer (some ⟨sc, 0, none⟩) :: Value.pointer (some ⟨sc, 0, none⟩) :: Value.pointer (some ⟨sc, 14, none⟩) :: Value.int .u8 4 :: Value.bool false :: Value.bool false :: undef :: undef :: undef :: undef :: undef :: undef :: undef :: undef :: undef :: Value.bool true :: Value.bool true :: Value.pointer (some ⟨p, 0, none⟩) :: Value.pointer (some ⟨p, 0, none⟩) :: Value.pointer (some ⟨p, 0, none⟩) :: Value.pointer (some ⟨p, 13, none⟩) :: Value.pointer (some ⟨ts, 0, none⟩) :: Value.pointer (some ⟨ts, 0, none⟩) :: Value.pointer (some ⟨ts, 0, none⟩) :: Value.pointer (some ⟨ts, 1, none⟩) :: Value.agg trkV :: undef :: undef :: undef :: undef :: undef :: undef :: undef :: undef :: undef :: undef :: undef :: undef :: undef :: undef :: undef :: undef :: undef :: undef :: undef :: undef :: undef :: undef :: undef :: undef :: undef :: undef :: undef :: undef :: undef :: undef :: undef :: undef :: undef :: undef :: undef :: undef :: undef :: undef :: undef :: undef :: undef :: undef :: undef :: undef :: undef :: undef :: undef :: undef :: []), []⟩ W := by
  have hz : B ≤ W.heap.size := by obtain ⟨tr, b, r, _⟩ := hT; exact Nat.le_trans hB (Nat.le_of_lt r.lt)
  have hF0 : Fp p W W.drew := fun _ _ _ _ r => r.drewN 1
  have hb0 : Below B W W.drew := below_drewN (Below.refl _ _) 1
  obtain ⟨W1, hW1⟩ : ∃ W1, W1 = W.drew := ⟨_, rfl⟩
  refine held_begin (N := 14) (S := (fun W => PS p k mu he ms sc ts fm kd W ∧ Trk7 t7 W)) (a' := frAct (Bs15_8 p sc ts t7) (Vs15_8 p sc ts t7 0 0 0 ⟨#[]⟩) 34 0) (by kernel_rfl) (by kernel_rfl) (by kernel_rfl) (show (fun W => PS p k mu he ms sc ts fm kd W ∧ Trk7 t7 W) W.drew from ⟨hS, hT⟩) (fun hS => ?_)
  rw [← hW1] at hF0 hb0 hS ⊢
  refine held_to (a' := frAct (Bs15_8 p sc ts t7) (Vs15_8 p sc ts t7 0 0 0 ⟨#[]⟩) 34 1) 0 14 (d := some 34) (v := .pointer (some ⟨ts, 0, none⟩)) (by kernel_rfl) (by kernel_rfl) sel15_8 (ok15_8 0 (by omega)) (fun c a w => hQ c a (some 34) _ w) (by kernel_rfl) (fun _ _ => by kernel_rfl) hS (by kernel_rfl) ?_
  refine held_to (a' := frAct (Bs15_8 p sc ts t7) (Vs15_8 p sc ts t7 0 0 0 ⟨#[]⟩) 34 2) 1 14 (d := some 35) (v := .pointer (some ⟨ts, 0, none⟩)) (by kernel_rfl) (by kernel_rfl) sel15_8 (ok15_8 1 (by omega)) (fun c a w => hQ c a (some 35) _ w) (by kernel_rfl) (fun _ _ => by kernel_rfl) hS (by kernel_rfl) ?_
  refine held_to (a' := frAct (Bs15_8 p sc ts t7) (Vs15_8 p sc ts t7 0 0 0 ⟨#[]⟩) 34 3) 2 14 (d := some 36) (v := .pointer (some ⟨ts, 11, none⟩)) (by kernel_rfl) (by kernel_rfl) sel15_8 (ok15_8 2 (by omega)) (fun c a w => hQ c a (some 36) _ w) (by kernel_rfl) (fun _ _ => by kernel_rfl) hS (by kernel_rfl) ?_
  refine held_to (a' := frAct (Bs15_8 p sc ts t7) (Vs15_8 p sc ts t7 0 0 0 ⟨#[]⟩) 34 4) 3 14 (d := some 37) (v := .agg #[.int .i32 0, .int .i32 0]) (by kernel_rfl) (by kernel_rfl) sel15_8 (ok15_8 3 (by omega)) (fun c a w => hQ c a (some 37) _ w) (by kernel_rfl) (fun _ hS => run_ld (T := 41) (x := .tmp 36) (by kernel_rfl) (by kernel_rfl) (ps_tsr hS.1)) hS (by kernel_rfl) ?_
  refine held_to (a' := frAct (Bs15_8 p sc ts t7) (Vs15_8 p sc ts t7 0 0 0 ⟨#[]⟩) 34 5) 4 14 (d := some 38) (v := .pointer (some ⟨ts, 0, none⟩)) (by kernel_rfl) (by kernel_rfl) sel15_8 (ok15_8 4 (by omega)) (fun c a w => hQ c a (some 38) _ w) (by kernel_rfl) (fun _ _ => by kernel_rfl) hS (by kernel_rfl) ?_
  refine held_to (a' := frAct (Bs15_8 p sc ts t7) (Vs15_8 p sc ts t7 0 0 0 ⟨#[]⟩) 34 6) 5 14 (d := some 39) (v := .pointer (some ⟨ts, 0, none⟩)) (by kernel_rfl) (by kernel_rfl) sel15_8 (ok15_8 5 (by omega)) (fun c a w => hQ c a (some 39) _ w) (by kernel_rfl) (fun _ _ => by kernel_rfl) hS (by kernel_rfl) ?_
  refine held_to (a' := frAct (Bs15_8 p sc ts t7) (Vs15_8 p sc ts t7 0 0 0 ⟨#[]⟩) 34 7) 6 14 (d := some 40) (v := .pointer (some ⟨ts, 0, none⟩)) (by kernel_rfl) (by kernel_rfl) sel15_8 (ok15_8 6 (by omega)) (fun c a w => hQ c a (some 40) _ w) (by kernel_rfl) (fun _ _ => by kernel_rfl) hS (by kernel_rfl) ?_
  refine held_to (a' := frAct (Bs15_8 p sc ts t7) (Vs15_8 p sc ts t7 0 0 0 ⟨#[]⟩) 34 8) 7 14 (d := some 41) (v := .string ⟨#[]⟩) (by kernel_rfl) (by kernel_rfl) sel15_8 (ok15_8 7 (by omega)) (fun c a w => hQ c a (some 41) _ w) (by kernel_rfl) (fun _ hS => run_ld (T := 9) (x := .tmp 40) (by kernel_rfl) (by kernel_rfl) (ps_tsn hS.1)) hS (by kernel_rfl) ?_
  refine held_to (a' := frAct (Bs15_8 p sc ts t7) (Vs15_8 p sc ts t7 0 0 0 ⟨#[]⟩) 34 9) 8 14 (d := some 42) (v := .iface 9 (.string ⟨#[]⟩)) (by kernel_rfl) (by kernel_rfl) sel15_8 (ok15_8 8 (by omega)) (fun c a w => hQ c a (some 42) _ w) (by kernel_rfl) (fun _ _ => by kernel_rfl) hS (by kernel_rfl) ?_
  refine held_ready1 9 (by kernel_rfl) (by kernel_rfl) (by kernel_rfl) ?_
  refine wp_value (d := some 43) (v := .slice (some ⟨W1.heap.size, 0, none⟩) 1 1) (w' := W1.alloc (.cells #[.iface 9 (.string ⟨#[]⟩)] 20)) (by kernel_rfl) (by kernel_rfl) ?_
  have b4 : Below W1.heap.size W1 (W1.alloc (.cells #[.iface 9 (.string ⟨#[]⟩)] 20)) := (Below.refl _ _).alloc (Nat.le_refl _) _
  have hS4 : PS p k mu he ms sc ts fm kd (W1.alloc (.cells #[.iface 9 (.string ⟨#[]⟩)] 20)) ∧ Trk7 t7 (W1.alloc (.cells #[.iface 9 (.string ⟨#[]⟩)] 20)) := ⟨(hS.1).later b4, (hS.2).later b4⟩
  have hb4 := hb0.trans (b4.mono (Nat.le_trans hz hb0.size))
  have hr4 : RowAt (W1.alloc (.cells #[.iface 9 (.string ⟨#[]⟩)] 20)) W1.heap.size #[.iface 9 (.string ⟨#[]⟩)] 20 := RowAt.new _ _ _
  obtain ⟨w4, hw4⟩ : ∃ w4, w4 = W1.alloc (.cells #[.iface 9 (.string ⟨#[]⟩)] 20) := ⟨_, rfl⟩
  rw [← hw4] at b4 hS4 hb4 hr4 ⊢
  obtain ⟨m, hm⟩ : ∃ m, m = W1.heap.size := ⟨_, rfl⟩
  rw [← hm]
  rw [← hm] at hr4
  refine ⟨hS4, ?_⟩
  rw [Lk_succ, show (frAct (Bs15_8 p sc ts t7) (Vs15_8 p sc ts t7 0 0 0 ⟨#[]⟩) 34 9).put (some 43) (.slice (some ⟨m, 0, none⟩) 1 1) = frAct (Bs15_8 p sc ts t7) (Vs15_8 p sc ts t7 0 0 m ⟨#[]⟩) 34 10 from by kernel_rfl]
  refine held_ready1 10 (by kernel_rfl) (by kernel_rfl) (by kernel_rfl) ?_
  obtain ⟨tx, ht⟩ := spD F m ⟨#[]⟩ w4 (hb4.tape ▸ hF) (hr4.cellv (j := 0) rfl)
  refine wp_value (d := some 44) (v := .string tx) (by kernel_rfl) (run_callF (c := ⟨.value (.func 14), #[.const (.string fmD), .tmp 43], #[9, 333]⟩) (d := ⟨.fn (.func 14) #[], #[.string fmD, .slice (some ⟨m, 0, none⟩) 1 1]⟩) (f := 14) (args := #[.string fmD, .slice (some ⟨m, 0, none⟩) 1 1]) (by kernel_rfl) (by kernel_rfl) (by kernel_rfl) ht) ?_
  have b6 : Below w4.heap.size w4 w4.drew := below_drewN (Below.refl _ _) 1
  have hS6 : PS p k mu he ms sc ts fm kd w4.drew ∧ Trk7 t7 w4.drew := ⟨(hS4.1).later b6, (hS4.2).later b6⟩
  have hb6 := hb4.trans (b6.mono (Nat.le_trans hz hb4.size))
  obtain ⟨w6, hw6⟩ : ∃ w6, w6 = w4.drew := ⟨_, rfl⟩
  rw [← hw6] at b6 hS6 hb6 ⊢
  refine ⟨hS6, ?_⟩
  rw [Lk_succ, show (frAct (Bs15_8 p sc ts t7) (Vs15_8 p sc ts t7 0 0 m ⟨#[]⟩) 34 10).put (some 44) (.string tx) = frAct (Bs15_8 p sc ts t7) (Vs15_8 p sc ts t7 0 0 m tx) 34 11 from by kernel_rfl]
  refine held_ready1 11 (by kernel_rfl) (by kernel_rfl) (by kernel_rfl) ?_
  refine wp_enter (d := some 45) (f := 26) (args := #[.pointer (some ⟨t7, 0, none⟩), .agg #[.int .i32 0, .int .i32 0], .string tx]) (by kernel_rfl) (by kernel_rfl) ?_
  obtain ⟨tr, b, r, h1, h2⟩ := hS6.2
  refine (data26_0 t7 0 95 B b tx tr w6 r h1 h2 hB).mono ?_
  rintro e2 w2 ⟨⟨g, rfl⟩, r2, f2, b2⟩
  have hS2 : PS p k mu he ms sc ts fm kd w2 ∧ Trk7 t7 w2 := ⟨(hS6.1).fp7 r f2, Trk7.tracked r2 h1 h2⟩
  have hb2 := hb6.trans b2
  refine ⟨_, rfl, hS2, ?_⟩
  rw [Lk_succ, show (frAct (Bs15_8 p sc ts t7) (Vs15_8 p sc ts t7 0 0 m tx) 34 11).put (some 45) (.agg #[.nilIface, .pointer (some ⟨g, 0, none⟩), .string tx, .bool false]) = frAct (Bs15_8 p sc ts t7) (Vs15_8 p sc ts t7 g 0 m tx) 34 12 from by kernel_rfl]
  refine held_ready1 12 (by kernel_rfl) (by kernel_rfl) (by kernel_rfl) ?_
  refine wp_value (d := some 46) (v := .slice (some ⟨w2.heap.size, 0, none⟩) 1 1) (w' := w2.alloc (.cells #[.nilIface, .pointer (some ⟨g, 0, none⟩), .string tx, .bool false] 30)) (by kernel_rfl) (by kernel_rfl) ?_
  have b3 : Below w2.heap.size w2 (w2.alloc (.cells #[.nilIface, .pointer (some ⟨g, 0, none⟩), .string tx, .bool false] 30)) := (Below.refl _ _).alloc (Nat.le_refl _) _
  have hS3 : PS p k mu he ms sc ts fm kd (w2.alloc (.cells #[.nilIface, .pointer (some ⟨g, 0, none⟩), .string tx, .bool false] 30)) ∧ Trk7 t7 (w2.alloc (.cells #[.nilIface, .pointer (some ⟨g, 0, none⟩), .string tx, .bool false] 30)) := ⟨(hS2.1).later b3, (hS2.2).later b3⟩
  have hb3 := hb2.trans (b3.mono (Nat.le_trans hz hb2.size))
  obtain ⟨w3, hw3⟩ : ∃ w3, w3 = w2.alloc (.cells #[.nilIface, .pointer (some ⟨g, 0, none⟩), .string tx, .bool false] 30) := ⟨_, rfl⟩
  rw [← hw3] at b3 hS3 hb3 ⊢
  obtain ⟨n, hn⟩ : ∃ n, n = w2.heap.size := ⟨_, rfl⟩
  rw [← hn]
  refine ⟨hS3, ?_⟩
  rw [Lk_succ, show (frAct (Bs15_8 p sc ts t7) (Vs15_8 p sc ts t7 g 0 m tx) 34 12).put (some 46) (.slice (some ⟨n, 0, none⟩) 1 1) = frAct (Bs15_8 p sc ts t7) (Vs15_8 p sc ts t7 g n m tx) 34 13 from by kernel_rfl]
  refine held_ready1 13 (by kernel_rfl) (by kernel_rfl) (by kernel_rfl) ?_
  refine wp_value (d := some 5) (v := .slice (some ⟨n, 0, none⟩) 1 1) (w' := w3) (by kernel_rfl) (by kernel_rfl) ?_
  refine ⟨hS3, ?_⟩
  rw [Lk_succ]
  exact held_done (by kernel_rfl) (by kernel_rfl) (hend g n m tx w3 hS3.1  hb3)

end Go.Proofs.YtidicogmfpfibaaFmt
