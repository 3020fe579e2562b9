import Derived.Test.YtfmfniddnlpkmaaDoorKit
import Derived.Test.YtfmfniddnlpkmaaDoorObE
namespace Go.Proofs.YtfmfniddnlpkmaaDoor
open Go.ChangeShapes Go.WideShapes Go.ChangeAt Go.RowKit
set_option linter.unusedVariables false
set_option maxRecDepth 100000
set_option maxHeartbeats 2000000

theorem wpList_insertN {P : Program} {w : World} {S : Value → Prop} {ops : Array Oper} {rest : List Oper} {o : Oper} {a : Act} {Q : Exit → Act → World → Prop} (hg : o.guard = none) (m x y : Operand) (t : TypeId) (hop : o.op = Op.insert t m x y)
    (k e : TypeId) (K : KeysLike P k S) (ht : P.underlying t = some (.map k e)) (b n n' : Nat) (F : Value → Option Value) (hm : a.eval m = .map (some b)) (h : MapIs w b S F n) (v u : Value) (hx : a.eval x = v) (hy : a.eval y = u) (hv : S v) (hn : (if (F v).isSome then n else n + 1) = n')
    (hK : ∀ w', MapIs w' b S (putF F v u) n' → Turned b w w' → wpList P ops Q rest (a.put o.dst undef) w') : wpList P ops Q (o :: rest) a w := by
  refine wpList_plain hg fun K' hK' => ?_
  obtain ⟨w', hrun, r1, r2⟩ := h.update (x := u) K ht hv
  unfold Oper.wp
  simp [execOp, hop, hm, hx, hy, hrun, Result.andThen]
  exact hK' _ _ (hK w' (hn ▸ r1) r2)

noncomputable def A198 (w : World) : Array Value := match (Instr.build 198 #[(13, .int .u8 6)]).run Tryd.prog w with | .ok (.agg c) _ => c | _ => #[]
theorem build198k (w : World) : (Instr.build 198 #[(13, .int .u8 6)]).run Tryd.prog w = .ok (.agg (A198 w)) w := by kernel_rfl
noncomputable def A98 (un : Int) (w : World) : Array Value := match (Instr.build 98 #[(2, .int .u64 un)]).run Tryd.prog w with | .ok (.agg c) _ => c | _ => #[]
theorem build98k (un : Int) (w : World) : (Instr.build 98 #[(2, .int .u64 un)]).run Tryd.prog w = .ok (.agg (A98 un w)) w := by kernel_rfl
noncomputable def A100 (un : Int) (w : World) : Array Value := match (Instr.build 100 #[(7, .agg (A98 un w))]).run Tryd.prog w with | .ok (.agg c) _ => c | _ => #[]
theorem build100k (un : Int) (w : World) : (Instr.build 100 #[(7, .agg (A98 un w))]).run Tryd.prog w = .ok (.agg (A100 un w)) w := by kernel_rfl
noncomputable def A182 (b : Bool) (w : World) : Array Value := match (Instr.build 182 #[(4, .bool b)]).run Tryd.prog w with | .ok (.agg c) _ => c | _ => #[]
theorem build182k (b : Bool) (w : World) : (Instr.build 182 #[(4, .bool b)]).run Tryd.prog w = .ok (.agg (A182 b w)) w := by kernel_rfl
noncomputable def A184 (un : Int) (b : Bool) (S mm M : Nat) (w0 w : World) : Array Value := match (Instr.build 184 #[(0, .agg (A100 un w0)), (96, .agg (A182 b w0)), (9, .slice (some ⟨S, 0, none⟩) 4 4), (20, .map (some mm)), (7, .pointer (some ⟨M, 0, none⟩)), (58, .pointer (some ⟨M, 0, none⟩))]).run Tryd.prog w with | .ok (.agg c) _ => c | _ => #[]
theorem build184k (un : Int) (b : Bool) (S mm M : Nat) (w0 w : World) : (Instr.build 184 #[(0, .agg (A100 un w0)), (96, .agg (A182 b w0)), (9, .slice (some ⟨S, 0, none⟩) 4 4), (20, .map (some mm)), (7, .pointer (some ⟨M, 0, none⟩)), (58, .pointer (some ⟨M, 0, none⟩))]).run Tryd.prog w = .ok (.agg (A184 un b S mm M w0 w)) w := by kernel_rfl
theorem oc184 (un : Int) (S mm M : Nat) (w0 w : World) : OC (A184 un false S mm M w0 w) un S mm := ⟨by kernel_rfl, by kernel_rfl, by kernel_rfl, by kernel_rfl, by kernel_rfl, by kernel_rfl⟩

/-- The feature's mask. -/
def fm (b : Bool) : Int := if b then 35184372088832 else 0
theorem mask24 (b : Bool) (w : World) : Calls Tryd.prog 24 #[.bool b, .bool false, .bool false] w fun e w' => e = .returned (.int .u64 (fm b)) ∧ w = w' := by
  cases b
  all_goals
    go_enter Tryd.func24, Tryd.ntmps24
    go_wp2_with fail
    go_ret
    exact ⟨by kernel_rfl, rfl⟩
def useOf (k f0 f1 : Nat) : Nat := if k = 0 then f0 else if k = 1 then f1 else 0
theorem use26 (p S mm : Nat) (un : Int) (f0 f1 k : Nat) (hk : k < 4) (w : World) (h : OS w p S mm un f0 f1) : Calls Tryd.prog 26 #[.pointer (some ⟨p, 0, none⟩), .int .i64 k] w fun e w' => e = .returned (.int .u32 (useOf k f0 f1)) ∧ w = w' := by
  obtain ⟨⟨cs, rp, pc⟩, ⟨ds, rs, d0, d1, d2, d3⟩, _⟩ := id h
  have hd : ds[k * 10 + 4]? = some (.int .u32 (useOf k f0 f1)) := by
    obtain rfl | rfl | rfl | rfl : k = 0 ∨ k = 1 ∨ k = 2 ∨ k = 3 := by omega
    · exact d0
    · exact d1
    · exact d2
    · exact d3
  have c106 := rp.cellv pc.c106
  have d4 := rs.cellv hd
  generalize useOf k f0 f1 = u at d4 ⊢
  clear hd d0 d1 d2 d3 rp rs pc h
  go_enter Tryd.func26, Tryd.ntmps26
  go_wp2_with fail
  go_ret
  exact ⟨rfl, rfl⟩
def Zz25 (p S mm : Nat) (un : Int) (f0 f1 : Nat) (w : World) (e : Ending) (w' : World) : Prop := (∃ v, e = .returned v) ∧ OS w' p S mm un f0 f1 ∧ Fr (XS S) w w'
theorem zz25 (p S mm EO : Nat) (un loc : Int) (f0 f1 : Nat) (w : World) (h : OS w p S mm un 0 0) (hL : ∀ W, Below w.heap.size w W → Calls Tryd.prog 32 #[.pointer (some ⟨p, 0, none⟩), .agg #[.int .i32 loc], .pointer (some ⟨EO, 0, none⟩)] W (Low p S mm un loc f0 f1 W)) :
    Calls Tryd.prog 25 #[.pointer (some ⟨p, 0, none⟩), .agg #[.int .i32 loc], .pointer (some ⟨EO, 0, none⟩)] w (Zz25 p S mm un f0 f1 w) := by
  have zS := h.lts.2.1
  have HL := Lib.hid hL
  clear hL h
  have hbw : Below w.heap.size w ((w.alloc (.cells #[.int .i32 loc] 36)).alloc (.cells #[.nilIface, .int .i32 0] 38)) := ((Below.refl _ _).alloc (Nat.le_refl _) _).alloc (by simp) _
  have R4 : RowAt ((w.alloc (.cells #[.int .i32 loc] 36)).alloc (.cells #[.nilIface, .int .i32 0] 38)) (w.heap.size + 1) #[.nilIface, .int .i32 0] 38 := RowAt.newAt (by simp)
  have HB := Lib.hid hbw
  have HR := Lib.hid R4
  clear hbw R4
  go_enter Tryd.func25, Tryd.ntmps25
  go_wp2_with fail
  refine (HL.out _ HB.out).mono ?_
  rintro e w5 ⟨⟨T, b, rfl⟩, hos, hfr⟩
  have V4 := hfr.row HR.out (fun e => by have : w.heap.size + 1 = S := e; omega)
  have r0 := V4.cellv (j := 0) (v := .nilIface) rfl
  have r1 := V4.cellv (j := 1) (v := .int .i32 0) rfl
  have fr := V4.frozen
  have z4 := V4.lt
  have HV4 := Lib.hid V4
  have HOS := Lib.hid hos
  have HFR : Hid (Fr (XS S) w w5) := (Fr.of_below HB.out).trans hfr
  clear V4 hos hfr HR HB HL
  go_wp2_with fail
  have q := (HV4.out.set 0 (.iface T (.pointer (some ⟨b, 0, none⟩)))).set 1 (.int .i32 loc)
  have q0 := q.cellv (j := 0) (v := .iface T (.pointer (some ⟨b, 0, none⟩))) rfl
  have q1 := q.cellv (j := 1) (v := .int .i32 loc) rfl
  refine bodyPost_ret (v := .agg #[.iface T (.pointer (some ⟨b, 0, none⟩)), .int .i32 loc]) (by simp [results, Tryd.results25, go_sem, q0, q1]) rfl ?_
  exact ⟨⟨_, rfl⟩, (HOS.out.setRow HV4.out (by decide) (by decide)).setRow (HV4.out.set 0 _) (by decide) (by decide), (HFR.out.set (.inr (Nat.le_succ _))).set (.inr (Nat.le_succ _))⟩

end Go.Proofs.YtfmfniddnlpkmaaDoor
