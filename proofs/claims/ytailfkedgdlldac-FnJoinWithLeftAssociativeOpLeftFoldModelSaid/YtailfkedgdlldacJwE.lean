import Derived.Test.YtailfkedgdlldacKit
import Derived.Test.YtailfkedgdlldacJwB
import Derived.LaidEql
namespace Go.Proofs.Ytailfkedgdlldac
open Go.ChangeShapes Go.WideShapes Go.ChangeAt Go.RowKit
set_option linter.unusedVariables false
set_option maxRecDepth 100000
set_option maxHeartbeats 2000000

/-- What the whole join answers. -/
def Joined (B : Nat) (op : Int) (a : Tr) (L : List (Value × Int)) (w : World) (e : Ending) (w' : World) : Prop :=
  ∃ y : Value × Int, e = .returned (.agg #[y.1, .int .i32 y.2]) ∧ JoinIs B w' op a L y ∧ Below w.heap.size w w'

theorem joinTree (op : Int) (hop : op ≠ 36) (b : Tr) : ∀ (a : Tr) (w : World), a.At w → b.At w →
    Calls Try.prog 14 #[.int .u8 op, .agg #[a.d, .int .i32 a.l], .agg #[b.d, .int .i32 b.l]] w (Joined w.heap.size op a (b.leaves op) w)
  | .leaf p l, w, ha, hb => by
    refine (joinFold op hop b.sz b w.heap.size (dN p, l) (dN p, l) [] w (Nat.le_refl _) (Nat.le_refl _) ⟨p, .inl rfl⟩ (.inl ⟨p, rfl⟩) .nil hb).mono ?_
    rintro e w' ⟨y, h1, h2, h3⟩
    exact ⟨y, h1, h2, h3⟩
  | .bin p l o g c d, w, ha, hb => by
    by_cases ho : o = 36
    · obtain ⟨hr, hc, hd⟩ := ha
      subst ho
      have hpl0 := hr.lt
      have r0 : ∀ o1 o2 o3, (((w.alloc o1).alloc o2).alloc o3).cell? ⟨p, 0, none⟩ = some c.d := fun o1 o2 o3 => (((hr.alloc o1).alloc o2).alloc o3).cellv rfl
      have q0 := hr.cellv (j := 0) (v := c.d) rfl
      have q1 := hr.cellv (j := 1) (v := .int .i32 c.l) rfl
      have q2 := hr.cellv (j := 2) (v := d.d) rfl
      have q3 := hr.cellv (j := 3) (v := .int .i32 d.l) rfl
      have q4 := hr.cellv (j := 4) (v := .int .u8 36) rfl
      have q5 := hr.cellv (j := 5) (v := .bool g) rfl
      have hpl1 : p < w.heap.size + 1 := by omega
      have hpl2 : p < w.heap.size + 1 + 1 := by omega
      have hpl3 : p < w.heap.size + 1 + 1 + 1 := by omega
      have hst0 := fun (A : Addr) (W : World) (m : Mode) => run_store Try.prog W A c.d m c.d_one
      have hst1 := fun (A : Addr) (W : World) (m : Mode) => run_store Try.prog W A d.d m d.d_one
      have HD := Lib.hid hd
      have HB := Lib.hid hb
      have HOP := Lib.hid hop
      clear hc hd hb hop hr r0
      show Calls Try.prog 14 #[.int .u8 op, .agg #[dB p, .int .i32 l], .agg #[b.d, .int .i32 b.l]] w (Joined w.heap.size op (.bin p l 36 g c d) (b.leaves op) w)
      unfold dB
      go_enter Try.func14, Try.ntmps14
      go_wp2_with fail
      refine (joinTree op HOP.out b d _ (HD.out.kept (K5.later (by go_grown))) (HB.out.kept (K5.later (by go_grown)))).mono ?_
      rintro e w2 ⟨y2, rfl, hj, hb2⟩
      simp only [World.size_alloc] at hj
      have B2 : Below w.heap.size w w2 := Below.trans (by go_grown) (hb2.mono (by go_size))
      have RA : RowAt w2 w.heap.size #[.iface 50 (.pointer (some ⟨p, 0, none⟩)), .int .i32 l] 27 := ((((RowAt.new w _ 27).alloc _).alloc _).alloc _).below hb2 (by go_size)
      have RZ : RowAt w2 (w.heap.size + 1 + 1) #[.nilIface, .int .i32 0] 27 := ((RowAt.newAt (by go_size)).alloc _).below hb2 (by go_size)
      have RC : RowAt w2 (w.heap.size + 1 + 1 + 1) #[c.d, .int .i32 c.l, d.d, .int .i32 d.l, .int .u8 36, .bool g] 53 := (RowAt.newAt (by go_size)).below hb2 (by go_size)
      have hyo := hj.node.one
      have hst2 := fun (A : Addr) (W : World) (m : Mode) => run_store Try.prog W A y2.1 m hyo
      have a0 := RA.cellv (j := 0) (v := .iface 50 (.pointer (some ⟨p, 0, none⟩))) rfl
      have a1 := RA.cellv (j := 1) (v := .int .i32 l) rfl
      have z0 := RZ.cellv (j := 0) (v := .nilIface) rfl
      have z1 := RZ.cellv (j := 1) (v := .int .i32 0) rfl
      have f0 := RZ.frozen 0
      have f1 := RZ.frozen 1
      have c2 := RC.cellv (j := 2) (v := d.d) rfl
      have c3 := RC.cellv (j := 3) (v := .int .i32 d.l) rfl
      have f2 := RC.frozen 2
      have f3 := RC.frozen 3
      have zz := RC.lt
      have HRZ := Lib.hid RZ
      have HRC := Lib.hid RC
      have HJ := Lib.hid hj
      clear q0 q1 q2 q3 q4 q5 hpl0 hpl1 hpl2 hpl3 hst0 hst1 RA RZ RC hj hb2
      go_wp2_with fail
      have n1 : w.heap.size + 1 + 1 ≠ w.heap.size + 1 + 1 + 1 := by omega
      have RE := (((HRZ.out.set_other n1 2 y2.1).set_other n1 3 (.int .i32 y2.2)).set 0 (.iface 50 (.pointer (some ⟨w.heap.size + 1 + 1 + 1, 0, none⟩)))).set 1 (.int .i32 l)
      have e0 := RE.cellv (j := 0) (v := .iface 50 (.pointer (some ⟨w.heap.size + 1 + 1 + 1, 0, none⟩))) (by simp)
      have e1 := RE.cellv (j := 1) (v := .int .i32 l) (by simp)
      refine bodyPost_ret (v := .agg #[.iface 50 (.pointer (some ⟨w.heap.size + 1 + 1 + 1, 0, none⟩)), .int .i32 l]) (by simp only [results, Try.results14]; simp [go_sem, e0, e1]) rfl ⟨(dB (w.heap.size + 1 + 1 + 1), l), rfl, ?_, by go_grown⟩
      unfold JoinIs
      rw [if_pos rfl]
      refine ⟨_, y2, rfl, by omega, (((HRC.out.set 2 _).set 3 _).set_other n1.symm 0 _).set_other n1.symm 1 _, JoinIs.mono (B := w.heap.size + 1 + 1 + 1 + 1) (by omega) (JoinIs.kept ?_ HJ.out)⟩
      exact ((K5.low (by omega) _ _).trans (K5.low (by omega) _ _)).trans ((K5.low (by omega) _ _).trans (K5.low (by omega) _ _))
    · refine (joinFold op hop b.sz b w.heap.size (dB p, l) (dB p, l) [] w (Nat.le_refl _) (Nat.le_refl _) ⟨p, .inr rfl⟩ (.inr ⟨p, _, o, rfl, ha.1, rfl, ho⟩) .nil hb).mono ?_
      rintro e w' ⟨y, h1, h2, h3⟩
      refine ⟨y, h1, ?_, h3⟩
      unfold JoinIs
      rw [if_neg ho]
      exact h2

theorem comp47 : (Try.prog.info? 47).map (·.comparable) = some true := by kernel_rfl
theorem comp50 : (Try.prog.info? 50).map (·.comparable) = some true := by kernel_rfl
theorem eqlI47 (p : Addr) (W : World) : (binOp .eql 23 (.iface 47 (.pointer (some p))) (.iface 47 (.pointer (some p)))).run Try.prog W = .ok (.bool true) W := by
  obtain ⟨i, hi, hc⟩ := Option.map_eq_some_iff.1 comp47
  obtain ⟨j, hj⟩ : ∃ j, Try.prog.info? 87 = some j := Option.isSome_iff_exists.1 (by kernel_rfl)
  exact run_eql_iface_ptr_same W p Try.underlying23 Try.underlying47 hi hc hj
theorem eqlI50 (p : Addr) (W : World) : (binOp .eql 23 (.iface 50 (.pointer (some p))) (.iface 50 (.pointer (some p)))).run Try.prog W = .ok (.bool true) W := by
  obtain ⟨i, hi, hc⟩ := Option.map_eq_some_iff.1 comp50
  obtain ⟨j, hj⟩ : ∃ j, Try.prog.info? 53 = some j := Option.isSome_iff_exists.1 (by kernel_rfl)
  exact run_eql_iface_ptr_same W p Try.underlying23 Try.underlying50 hi hc hj


theorem same27 (x : Value × Int) (hx : isNode x) (w : World) : Calls Try.prog 27 #[.agg #[x.1, .int .i32 x.2], .agg #[x.1, .int .i32 x.2]] w fun e w' => e = .returned (.bool true) ∧ Below w.heap.size w w' := by
  obtain ⟨x1, x2⟩ := x
  obtain ⟨p, h⟩ := hx
  simp only at h
  rcases h with rfl | rfl
  · unfold dN
    have pe := eqlI47
    go_enter Try.func27, Try.ntmps27
    go_wp2_with fail
    go_ret
    exact ⟨rfl, by go_grown⟩
  · unfold dB
    have pe := eqlI50
    go_enter Try.func27, Try.ntmps27
    go_wp2_with fail
    go_ret
    exact ⟨rfl, by go_grown⟩

end Go.Proofs.Ytailfkedgdlldac
