import Derived.Test.YtailfkedgdlldacKit
import Derived.Test.YtailfkedgdlldacJwA
import Derived.StillTailTactics
namespace Go.Proofs.Ytailfkedgdlldac
open Go.ChangeShapes Go.WideShapes Go.ChangeAt Go.RowKit
set_option linter.unusedVariables false
set_option maxRecDepth 100000
set_option maxHeartbeats 2000000

theorem K5.drew (B : Nat) (w : World) : K5 B w w.drew := fun _ _ _ h => h

/-- What joining answers: the fold of the operands on A. -/
def Folded (B : Nat) (op : Int) (A : Value × Int) (L : List (Value × Int)) (w : World) (e : Ending) (w' : World) : Prop :=
  ∃ y : Value × Int, e = .returned (.agg #[y.1, .int .i32 y.2]) ∧ FoldIs B w' op A L y ∧ Below w.heap.size w w'

theorem isNode.one {x : Value × Int} (h : isNode x) : x.1.oneCell' = true := by
  obtain ⟨p, h | h⟩ := h <;> rw [h] <;> rfl

theorem joinFold (op : Int) (hop : op ≠ 36) : ∀ (fuel : Nat) (b : Tr) (B : Nat) (A x : Value × Int) (L : List (Value × Int)) (w : World), b.sz ≤ fuel → B ≤ w.heap.size → isNode A → NotComma w A → FoldIs B w op A L x → b.At w →
    Calls Try.prog 14 #[.int .u8 op, .agg #[x.1, .int .i32 x.2], .agg #[b.d, .int .i32 b.l]] w (Folded B op A (L ++ b.leaves op) w)
  | 0, b, _, _, _, _, _, hf, _, _, _, _, _ => by
    have := b.sz_pos
    omega
  | fuel + 1, b, B, A, x, L, w, hf, hB, hA, hnA, hx, hb => by
    have hnc := hx.notComma hop hnA
    have hx1 := (hx.node hA).one
    have hbo := b.d_one
    obtain ⟨x1, x2⟩ := x
    have HF := Lib.hid hf
    have HA := Lib.hid hA
    have HNA := Lib.hid hnA
    have HX := Lib.hid hx
    have HB := Lib.hid hb
    have HBB := Lib.hid hB
    have HOP := Lib.hid hop
    clear hf hA hnA hx hb hB hop
    rcases hnc with ⟨p', h1⟩ | ⟨p', cs, o, h1, h2, h3, h4⟩
    all_goals
      simp only [dN, dB] at h1
      subst h1
    · go_enter Try.func14, Try.ntmps14
      go_wp2_with fail
      go_loopg [10, 11] (b.sz) (fun k v10 v11 wr => ∃ (b' : Tr) (y : Value × Int) (L' : List (Value × Int)), b'.sz = k ∧ k ≤ b.sz ∧ RowAt wr w.heap.size #[y.1, .int .i32 y.2] 27 ∧ RowAt wr (w.heap.size + 1) #[b'.d, .int .i32 b'.l] 27 ∧ (∃ z0 z1, RowAt wr (w.heap.size + 1 + 1) #[z0, z1] 27) ∧ FoldIs B wr op A L' y ∧ b'.At wr ∧ L' ++ b'.leaves op = L ++ b.leaves op ∧ Below w.heap.size w wr)
      case atStart => exact ⟨b, (_, x2), L, rfl, Nat.le_refl _, ((RowAt.newAt rfl).alloc _).alloc _, (RowAt.newAt (by simp)).alloc _, ⟨_, _, RowAt.newAt (by simp)⟩, HX.out.kept (K5.later (by go_grown)), HB.out.kept (K5.later (by go_grown)), rfl, by go_grown⟩
      case round =>
        obtain ⟨b', y, L', hsz, hkb, hRa, hRb, ⟨z0, z1, hRz⟩, hF, hAt, hL, hbw⟩ := hrel
        have hyo := (hF.node HA.out).one
        have hst := fun (A : Addr) (W : World) (m : Mode) => run_store Try.prog W A y.1 m hyo
        have a0 := hRa.cellv (j := 0) (v := y.1) rfl
        have a1 := hRa.cellv (j := 1) (v := .int .i32 y.2) rfl
        have fa0 := hRa.frozen 0
        have fa1 := hRa.frozen 1
        have fb0 := hRb.frozen 0
        have fb1 := hRb.frozen 1
        have fz0 := hRz.frozen 0
        have fz1 := hRz.frozen 1
        have y0 := hRz.cellv (j := 0) (v := z0) rfl
        have y1 := hRz.cellv (j := 1) (v := z1) rfl
        have hz := hRz.lt
        have HRA := Lib.hid hRa
        have HRB := Lib.hid hRb
        have HRZ := Lib.hid hRz
        have HFF := Lib.hid hF
        have HAT := Lib.hid hAt
        have HL := Lib.hid hL
        have HSZ := Lib.hid hsz
        have HBW := Lib.hid hbw
        clear hRa hRz hF hL hsz hyo hbw
        cases b' with
        | leaf p2 l2 =>
          have b0 : wr.cell? ⟨w.heap.size + 1, 0, none⟩ = some (.iface 47 (.pointer (some ⟨p2, 0, none⟩))) := hRb.cellv rfl
          have b1 : wr.cell? ⟨w.heap.size + 1, 1, none⟩ = some (.int .i32 l2) := hRb.cellv rfl
          clear hRb hAt
          go_wp2_with fail
          have RZ := ((HRZ.out.set 0 (.iface 50 (.pointer (some ⟨wr.heap.size, 0, none⟩)))).set 1 (.int .i32 y.2)).alloc (.cells #[y.1, .int .i32 y.2, .iface 47 (.pointer (some ⟨p2, 0, none⟩)), .int .i32 l2, .int .u8 op, .bool false] 53)
          have e0 := RZ.cellv (j := 0) (v := .iface 50 (.pointer (some ⟨wr.heap.size, 0, none⟩))) (by simp)
          have e1 := RZ.cellv (j := 1) (v := .int .i32 y.2) (by simp)
          have e2 := HFF.out.loc
          refine bodyPost_ret (v := .agg #[.iface 50 (.pointer (some ⟨wr.heap.size, 0, none⟩)), .int .i32 y.2]) (by simp only [results, Try.results14]; simp [go_sem, e0, e1]) rfl ⟨(dB wr.heap.size, y.2), rfl, ?_, by (have hbw := HBW.out; go_grown)⟩
          rw [← HL.out, show Tr.leaves op (.leaf p2 l2) = [(dN p2, l2)] from rfl, show (dB wr.heap.size, y.2) = (dB wr.heap.size, A.2) by rw [e2]]
          refine .snoc (r := (dN p2, l2)) (x := y) (HFF.out.kept (((K5.box HRZ.out (by decide) 0 _).trans (K5.box (HRZ.out.set 0 _) (by decide) 1 _)).trans (K5.later (by go_grown)))) ?_ ?_
          · exact Nat.le_trans HBB.out HBW.out.size
          · refine RowAt.newAt ?_
            simp
        | bin p2 l2 o2 g2 r1 r2 =>
          have b0 : wr.cell? ⟨w.heap.size + 1, 0, none⟩ = some (.iface 50 (.pointer (some ⟨p2, 0, none⟩))) := hRb.cellv rfl
          have b1 : wr.cell? ⟨w.heap.size + 1, 1, none⟩ = some (.int .i32 l2) := hRb.cellv rfl
          obtain ⟨hr, _, _⟩ := hAt
          have r0 := hr.cellv (j := 0) (v := r1.d) rfl
          have r1' := hr.cellv (j := 1) (v := .int .i32 r1.l) rfl
          have r2' := hr.cellv (j := 2) (v := r2.d) rfl
          have r3 := hr.cellv (j := 3) (v := .int .i32 r2.l) rfl
          have r4 := hr.cellv (j := 4) (v := .int .u8 o2) rfl
          have hst2 := fun (A : Addr) (W : World) (m : Mode) => run_store Try.prog W A r2.d m r2.d_one
          have hp2 := hr.lt
          clear hRb hr
          by_cases hoo : o2 = op
          · have hob : (o2 == op) = true := by simpa using hoo
            have HOO := Lib.hid hoo
            clear hoo
            go_wp2_with fail
            go_still_tail 6, (by kernel_rfl)
            go_wp2_with fail
            have hs := HSZ.out
            have hf := HF.out
            simp only [Tr.sz] at hs
            have ht := HAT.out
            have hbw := HBW.out
            refine (joinFold op HOP.out fuel r1 B A y L' wr.drew (by omega) (Nat.le_trans HBB.out hbw.size) HA.out ((HNA.out.kept (K5.later hbw)).kept (K5.drew 0 _)) (HFF.out.kept (K5.drew B _)) (ht.2.1.kept (K5.drew 0 _))).mono ?_
            rintro e w2 ⟨y2, rfl, hf2, hb2⟩
            have hbo2 := (hf2.node HA.out).one
            have hst3 := fun (A : Addr) (W : World) (m : Mode) => run_store Try.prog W A y2.1 m hbo2
            have hb2' : Below wr.heap.size wr w2 := ⟨hb2.os, hb2.tape, hb2.output, hb2.size, hb2.block⟩
            have RA := HRA.out.below hb2' HRA.out.lt
            have RB := HRB.out.below hb2' HRB.out.lt
            have RZ := HRZ.out.below hb2' HRZ.out.lt
            have RP := ht.1.below hb2' ht.1.lt
            have q0 := RA.cellv (j := 0) (v := y.1) rfl
            have q1 := RA.cellv (j := 1) (v := .int .i32 y.2) rfl
            have g0 := RA.frozen 0
            have g1 := RA.frozen 1
            have q2 := RB.cellv (j := 0) (v := .iface 50 (.pointer (some ⟨p2, 0, none⟩))) rfl
            have q3 := RB.cellv (j := 1) (v := .int .i32 l2) rfl
            have k2 := RB.frozen 0
            have k3 := RB.frozen 1
            have q4 := RP.cellv (j := 2) (v := r2.d) rfl
            have q5 := RP.cellv (j := 3) (v := .int .i32 r2.l) rfl
            have n1 : p2 ≠ w.heap.size := RP.ne RA (by decide)
            have n2 : p2 ≠ w.heap.size + 1 := RP.ne RB (by decide)
            have z2 := RP.lt
            have z3 := RZ.lt
            have HRA' := Lib.hid RA
            have HRB' := Lib.hid RB
            have HRZ' := Lib.hid RZ
            have HF2 := Lib.hid hf2
            have HB2 := Lib.hid hb2'
            have HAT2 := Lib.hid (ht.2.2.kept (K5.later hb2'))
            clear a0 a1 fa0 fa1 fb0 fb1 fz0 fz1 y0 y1 hz b0 b1 r0 r1' r2' r3 r4 hp2 HRA HRB HRZ HFF HAT hs hf ht hf2 hb2 hb2' RA RB RZ RP hst
            go_wp2_with fail
            go_roundg r2.sz
            case measure =>
              have hs := HSZ.out
              simp only [Tr.sz] at hs
              omega
            case rel =>
              have hs := HSZ.out
              simp only [Tr.sz] at hs
              have na : w.heap.size ≠ w.heap.size + 1 := by omega
              have nz1 : w.heap.size + 1 + 1 ≠ w.heap.size := by omega
              have nz2 : w.heap.size + 1 + 1 ≠ w.heap.size + 1 := by omega
              have RA2 := (HRA'.out.set 0 y2.1).set 1 (.int .i32 y2.2)
              have RB2 := (HRB'.out.set_other na.symm 0 y2.1).set_other na.symm 1 (.int .i32 y2.2)
              have KK : ∀ C, K5 C w2 ((((w2.setCell ⟨w.heap.size, 0, none⟩ y2.1).setCell ⟨w.heap.size, 1, none⟩ (.int .i32 y2.2)).setCell ⟨w.heap.size + 1, 0, none⟩ r2.d).setCell ⟨w.heap.size + 1, 1, none⟩ (.int .i32 r2.l)) := fun C =>
                ((K5.box HRA'.out (by decide) 0 _).trans (K5.box (HRA'.out.set 0 _) (by decide) 1 _)).trans ((K5.box RB2 (by decide) 0 _).trans (K5.box (RB2.set 0 _) (by decide) 1 _))
              refine ⟨r2, y2, L' ++ r1.leaves op, rfl, by omega, (RA2.set_other na 0 _).set_other na 1 _, (RB2.set 0 _).set 1 _, ⟨_, _, (((HRZ'.out.set_other nz1 0 _).set_other nz1 1 _).set_other nz2 0 _).set_other nz2 1 _⟩, HF2.out.kept (KK B), HAT2.out.kept (KK 0), ?_, ?_⟩
              · rw [← HL.out, show Tr.leaves op (.bin p2 l2 o2 g2 r1 r2) = r1.leaves op ++ r2.leaves op from if_pos HOO.out, List.append_assoc]
              · exact ((((HBW.out.trans (HB2.out.mono HBW.out.size)).setCell (Nat.le_refl _) _).setCell (Nat.le_refl _) _).setCell (Nat.le_succ _) _).setCell (Nat.le_succ _) _
          · have hob : (o2 == op) = false := by simpa using hoo
            have HOO := Lib.hid hoo
            clear hoo
            go_wp2_with fail
            have RZ := ((HRZ.out.set 0 (.iface 50 (.pointer (some ⟨wr.heap.size, 0, none⟩)))).set 1 (.int .i32 y.2)).alloc (.cells #[y.1, .int .i32 y.2, .iface 50 (.pointer (some ⟨p2, 0, none⟩)), .int .i32 l2, .int .u8 op, .bool false] 53)
            have e0 := RZ.cellv (j := 0) (v := .iface 50 (.pointer (some ⟨wr.heap.size, 0, none⟩))) (by simp)
            have e1 := RZ.cellv (j := 1) (v := .int .i32 y.2) (by simp)
            have e2 := HFF.out.loc
            refine bodyPost_ret (v := .agg #[.iface 50 (.pointer (some ⟨wr.heap.size, 0, none⟩)), .int .i32 y.2]) (by simp only [results, Try.results14]; simp [go_sem, e0, e1]) rfl ⟨(dB wr.heap.size, y.2), rfl, ?_, by (have hbw := HBW.out; go_grown)⟩
            rw [← HL.out, show Tr.leaves op (.bin p2 l2 o2 g2 r1 r2) = [(dB p2, l2)] from if_neg HOO.out, show (dB wr.heap.size, y.2) = (dB wr.heap.size, A.2) by rw [e2]]
            refine .snoc (r := (dB p2, l2)) (x := y) (HFF.out.kept (((K5.box HRZ.out (by decide) 0 _).trans (K5.box (HRZ.out.set 0 _) (by decide) 1 _)).trans (K5.later (by go_grown)))) ?_ ?_
            · exact Nat.le_trans HBB.out HBW.out.size
            · refine RowAt.newAt ?_
              simp
    · have cc := h2.cellv h3
      have ho : (o == 36) = false := by simpa using h4
      have hplt := h2.lt
      have hpl1 : p' < w.heap.size + 1 := by omega
      have hpl2 : p' < w.heap.size + 1 + 1 := by omega
      clear h2 h3 h4
      go_enter Try.func14, Try.ntmps14
      go_wp2_with fail
      go_loopg [10, 11] (b.sz) (fun k v10 v11 wr => ∃ (b' : Tr) (y : Value × Int) (L' : List (Value × Int)), b'.sz = k ∧ k ≤ b.sz ∧ RowAt wr w.heap.size #[y.1, .int .i32 y.2] 27 ∧ RowAt wr (w.heap.size + 1) #[b'.d, .int .i32 b'.l] 27 ∧ (∃ z0 z1, RowAt wr (w.heap.size + 1 + 1) #[z0, z1] 27) ∧ FoldIs B wr op A L' y ∧ b'.At wr ∧ L' ++ b'.leaves op = L ++ b.leaves op ∧ Below w.heap.size w wr)
      case atStart => exact ⟨b, (_, x2), L, rfl, Nat.le_refl _, ((RowAt.newAt rfl).alloc _).alloc _, (RowAt.newAt (by simp)).alloc _, ⟨_, _, RowAt.newAt (by simp)⟩, HX.out.kept (K5.later (by go_grown)), HB.out.kept (K5.later (by go_grown)), rfl, by go_grown⟩
      case round =>
        obtain ⟨b', y, L', hsz, hkb, hRa, hRb, ⟨z0, z1, hRz⟩, hF, hAt, hL, hbw⟩ := hrel
        have hyo := (hF.node HA.out).one
        have hst := fun (A : Addr) (W : World) (m : Mode) => run_store Try.prog W A y.1 m hyo
        have a0 := hRa.cellv (j := 0) (v := y.1) rfl
        have a1 := hRa.cellv (j := 1) (v := .int .i32 y.2) rfl
        have fa0 := hRa.frozen 0
        have fa1 := hRa.frozen 1
        have fb0 := hRb.frozen 0
        have fb1 := hRb.frozen 1
        have fz0 := hRz.frozen 0
        have fz1 := hRz.frozen 1
        have y0 := hRz.cellv (j := 0) (v := z0) rfl
        have y1 := hRz.cellv (j := 1) (v := z1) rfl
        have hz := hRz.lt
        have HRA := Lib.hid hRa
        have HRB := Lib.hid hRb
        have HRZ := Lib.hid hRz
        have HFF := Lib.hid hF
        have HAT := Lib.hid hAt
        have HL := Lib.hid hL
        have HSZ := Lib.hid hsz
        have HBW := Lib.hid hbw
        clear hRa hRz hF hL hsz hyo hbw
        cases b' with
        | leaf p2 l2 =>
          have b0 : wr.cell? ⟨w.heap.size + 1, 0, none⟩ = some (.iface 47 (.pointer (some ⟨p2, 0, none⟩))) := hRb.cellv rfl
          have b1 : wr.cell? ⟨w.heap.size + 1, 1, none⟩ = some (.int .i32 l2) := hRb.cellv rfl
          clear hRb hAt
          go_wp2_with fail
          have RZ := ((HRZ.out.set 0 (.iface 50 (.pointer (some ⟨wr.heap.size, 0, none⟩)))).set 1 (.int .i32 y.2)).alloc (.cells #[y.1, .int .i32 y.2, .iface 47 (.pointer (some ⟨p2, 0, none⟩)), .int .i32 l2, .int .u8 op, .bool false] 53)
          have e0 := RZ.cellv (j := 0) (v := .iface 50 (.pointer (some ⟨wr.heap.size, 0, none⟩))) (by simp)
          have e1 := RZ.cellv (j := 1) (v := .int .i32 y.2) (by simp)
          have e2 := HFF.out.loc
          refine bodyPost_ret (v := .agg #[.iface 50 (.pointer (some ⟨wr.heap.size, 0, none⟩)), .int .i32 y.2]) (by simp only [results, Try.results14]; simp [go_sem, e0, e1]) rfl ⟨(dB wr.heap.size, y.2), rfl, ?_, by (have hbw := HBW.out; go_grown)⟩
          rw [← HL.out, show Tr.leaves op (.leaf p2 l2) = [(dN p2, l2)] from rfl, show (dB wr.heap.size, y.2) = (dB wr.heap.size, A.2) by rw [e2]]
          refine .snoc (r := (dN p2, l2)) (x := y) (HFF.out.kept (((K5.box HRZ.out (by decide) 0 _).trans (K5.box (HRZ.out.set 0 _) (by decide) 1 _)).trans (K5.later (by go_grown)))) ?_ ?_
          · exact Nat.le_trans HBB.out HBW.out.size
          · refine RowAt.newAt ?_
            simp
        | bin p2 l2 o2 g2 r1 r2 =>
          have b0 : wr.cell? ⟨w.heap.size + 1, 0, none⟩ = some (.iface 50 (.pointer (some ⟨p2, 0, none⟩))) := hRb.cellv rfl
          have b1 : wr.cell? ⟨w.heap.size + 1, 1, none⟩ = some (.int .i32 l2) := hRb.cellv rfl
          obtain ⟨hr, _, _⟩ := hAt
          have r0 := hr.cellv (j := 0) (v := r1.d) rfl
          have r1' := hr.cellv (j := 1) (v := .int .i32 r1.l) rfl
          have r2' := hr.cellv (j := 2) (v := r2.d) rfl
          have r3 := hr.cellv (j := 3) (v := .int .i32 r2.l) rfl
          have r4 := hr.cellv (j := 4) (v := .int .u8 o2) rfl
          have hst2 := fun (A : Addr) (W : World) (m : Mode) => run_store Try.prog W A r2.d m r2.d_one
          have hp2 := hr.lt
          clear hRb hr
          by_cases hoo : o2 = op
          · have hob : (o2 == op) = true := by simpa using hoo
            have HOO := Lib.hid hoo
            clear hoo
            go_wp2_with fail
            go_still_tail 6, (by kernel_rfl)
            go_wp2_with fail
            have hs := HSZ.out
            have hf := HF.out
            simp only [Tr.sz] at hs
            have ht := HAT.out
            have hbw := HBW.out
            refine (joinFold op HOP.out fuel r1 B A y L' wr.drew (by omega) (Nat.le_trans HBB.out hbw.size) HA.out ((HNA.out.kept (K5.later hbw)).kept (K5.drew 0 _)) (HFF.out.kept (K5.drew B _)) (ht.2.1.kept (K5.drew 0 _))).mono ?_
            rintro e w2 ⟨y2, rfl, hf2, hb2⟩
            have hbo2 := (hf2.node HA.out).one
            have hst3 := fun (A : Addr) (W : World) (m : Mode) => run_store Try.prog W A y2.1 m hbo2
            have hb2' : Below wr.heap.size wr w2 := ⟨hb2.os, hb2.tape, hb2.output, hb2.size, hb2.block⟩
            have RA := HRA.out.below hb2' HRA.out.lt
            have RB := HRB.out.below hb2' HRB.out.lt
            have RZ := HRZ.out.below hb2' HRZ.out.lt
            have RP := ht.1.below hb2' ht.1.lt
            have q0 := RA.cellv (j := 0) (v := y.1) rfl
            have q1 := RA.cellv (j := 1) (v := .int .i32 y.2) rfl
            have g0 := RA.frozen 0
            have g1 := RA.frozen 1
            have q2 := RB.cellv (j := 0) (v := .iface 50 (.pointer (some ⟨p2, 0, none⟩))) rfl
            have q3 := RB.cellv (j := 1) (v := .int .i32 l2) rfl
            have k2 := RB.frozen 0
            have k3 := RB.frozen 1
            have q4 := RP.cellv (j := 2) (v := r2.d) rfl
            have q5 := RP.cellv (j := 3) (v := .int .i32 r2.l) rfl
            have n1 : p2 ≠ w.heap.size := RP.ne RA (by decide)
            have n2 : p2 ≠ w.heap.size + 1 := RP.ne RB (by decide)
            have z2 := RP.lt
            have z3 := RZ.lt
            have HRA' := Lib.hid RA
            have HRB' := Lib.hid RB
            have HRZ' := Lib.hid RZ
            have HF2 := Lib.hid hf2
            have HB2 := Lib.hid hb2'
            have HAT2 := Lib.hid (ht.2.2.kept (K5.later hb2'))
            clear a0 a1 fa0 fa1 fb0 fb1 fz0 fz1 y0 y1 hz b0 b1 r0 r1' r2' r3 r4 hp2 HRA HRB HRZ HFF HAT hs hf ht hf2 hb2 hb2' RA RB RZ RP hst
            go_wp2_with fail
            go_roundg r2.sz
            case measure =>
              have hs := HSZ.out
              simp only [Tr.sz] at hs
              omega
            case rel =>
              have hs := HSZ.out
              simp only [Tr.sz] at hs
              have na : w.heap.size ≠ w.heap.size + 1 := by omega
              have nz1 : w.heap.size + 1 + 1 ≠ w.heap.size := by omega
              have nz2 : w.heap.size + 1 + 1 ≠ w.heap.size + 1 := by omega
              have RA2 := (HRA'.out.set 0 y2.1).set 1 (.int .i32 y2.2)
              have RB2 := (HRB'.out.set_other na.symm 0 y2.1).set_other na.symm 1 (.int .i32 y2.2)
              have KK : ∀ C, K5 C w2 ((((w2.setCell ⟨w.heap.size, 0, none⟩ y2.1).setCell ⟨w.heap.size, 1, none⟩ (.int .i32 y2.2)).setCell ⟨w.heap.size + 1, 0, none⟩ r2.d).setCell ⟨w.heap.size + 1, 1, none⟩ (.int .i32 r2.l)) := fun C =>
                ((K5.box HRA'.out (by decide) 0 _).trans (K5.box (HRA'.out.set 0 _) (by decide) 1 _)).trans ((K5.box RB2 (by decide) 0 _).trans (K5.box (RB2.set 0 _) (by decide) 1 _))
              refine ⟨r2, y2, L' ++ r1.leaves op, rfl, by omega, (RA2.set_other na 0 _).set_other na 1 _, (RB2.set 0 _).set 1 _, ⟨_, _, (((HRZ'.out.set_other nz1 0 _).set_other nz1 1 _).set_other nz2 0 _).set_other nz2 1 _⟩, HF2.out.kept (KK B), HAT2.out.kept (KK 0), ?_, ?_⟩
              · rw [← HL.out, show Tr.leaves op (.bin p2 l2 o2 g2 r1 r2) = r1.leaves op ++ r2.leaves op from if_pos HOO.out, List.append_assoc]
              · exact ((((HBW.out.trans (HB2.out.mono HBW.out.size)).setCell (Nat.le_refl _) _).setCell (Nat.le_refl _) _).setCell (Nat.le_succ _) _).setCell (Nat.le_succ _) _
          · have hob : (o2 == op) = false := by simpa using hoo
            have HOO := Lib.hid hoo
            clear hoo
            go_wp2_with fail
            have RZ := ((HRZ.out.set 0 (.iface 50 (.pointer (some ⟨wr.heap.size, 0, none⟩)))).set 1 (.int .i32 y.2)).alloc (.cells #[y.1, .int .i32 y.2, .iface 50 (.pointer (some ⟨p2, 0, none⟩)), .int .i32 l2, .int .u8 op, .bool false] 53)
            have e0 := RZ.cellv (j := 0) (v := .iface 50 (.pointer (some ⟨wr.heap.size, 0, none⟩))) (by simp)
            have e1 := RZ.cellv (j := 1) (v := .int .i32 y.2) (by simp)
            have e2 := HFF.out.loc
            refine bodyPost_ret (v := .agg #[.iface 50 (.pointer (some ⟨wr.heap.size, 0, none⟩)), .int .i32 y.2]) (by simp only [results, Try.results14]; simp [go_sem, e0, e1]) rfl ⟨(dB wr.heap.size, y.2), rfl, ?_, by (have hbw := HBW.out; go_grown)⟩
            rw [← HL.out, show Tr.leaves op (.bin p2 l2 o2 g2 r1 r2) = [(dB p2, l2)] from if_neg HOO.out, show (dB wr.heap.size, y.2) = (dB wr.heap.size, A.2) by rw [e2]]
            refine .snoc (r := (dB p2, l2)) (x := y) (HFF.out.kept (((K5.box HRZ.out (by decide) 0 _).trans (K5.box (HRZ.out.set 0 _) (by decide) 1 _)).trans (K5.later (by go_grown)))) ?_ ?_
            · exact Nat.le_trans HBB.out HBW.out.size
            · refine RowAt.newAt ?_
              simp

end Go.Proofs.Ytailfkedgdlldac
