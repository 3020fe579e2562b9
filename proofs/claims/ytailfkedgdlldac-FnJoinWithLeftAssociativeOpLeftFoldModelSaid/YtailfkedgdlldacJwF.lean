import Derived.Test.YtailfkedgdlldacKit
import Derived.Test.YtailfkedgdlldacJwE
import Derived.Test.YtailfkedgdlldacJwC
import Derived.StillTailTactics
namespace Go.Proofs.Ytailfkedgdlldac
open Go.ChangeShapes Go.WideShapes Go.ChangeAt Go.RowKit
set_option linter.unusedVariables false
set_option maxRecDepth 100000
set_option maxHeartbeats 2000000

theorem FoldIs.inv {B : Nat} {w : World} {op : Int} {A y r : Value × Int} {L : List (Value × Int)} (h : FoldIs B w op A (L ++ [r]) y) : ∃ p x, y = (dB p, A.2) ∧ B ≤ p ∧ RowAt w p #[x.1, .int .i32 x.2, r.1, .int .i32 r.2, .int .u8 op, .bool false] 53 ∧ FoldIs B w op A L x := by
  generalize hM : L ++ [r] = M at h
  cases h with
  | nil => simp at hM
  | snoc h1 h2 h3 =>
    obtain ⟨rfl, e⟩ := List.append_inj' hM rfl
    simp at e
    subst e
    exact ⟨_, _, rfl, h2, h3, h1⟩
theorem FoldIs.inv0 {B : Nat} {w : World} {op : Int} {A y : Value × Int} (h : FoldIs B w op A [] y) : y = A := by
  generalize hM : ([] : List (Value × Int)) = M at h
  cases h with
  | nil => rfl
  | snoc h1 h2 h3 => simp at hM

theorem flat_cells {cur : Array Value} {L : List (Value × Int)} (h : cur.toList.take (L.length * 2) = flat L) {i : Nat} {x : Value × Int} (hx : L[i]? = some x) : cur[i * 2]? = some x.1 ∧ cur[i * 2 + 1]? = some (.int .i32 x.2) := by
  have hi : i < L.length := (List.getElem?_eq_some_iff.1 hx).1
  obtain ⟨h1, h2⟩ := flat_get L i x hx
  rw [← h] at h1 h2
  rw [List.getElem?_take, if_pos (by omega)] at h1 h2
  exact ⟨by simpa using h1, by simpa using h2⟩

theorem check15 (op : Int) (hop : op ≠ 36) (a b : Tr) (y : Value × Int) (w : World) (hj : JoinIs 0 w op a (b.leaves op) y) (ha : a.At w) (hb : b.At w) (hbs : b.sz ≤ 5000) :
    Calls Try.prog 15 #[.agg #[y.1, .int .i32 y.2], .agg #[a.d, .int .i32 a.l], .agg #[b.d, .int .i32 b.l], .int .u8 op] w fun e w' => e = .returned (.bool true) ∧ Below w.heap.size w w' := by
  have HJ := Lib.hid hj
  have HTA := Lib.hid ha
  have HTB := Lib.hid hb
  have HOP := Lib.hid hop
  clear hj ha hb hop
  go_enter Try.func15, Try.ntmps15
  go_wp2_with fail
  go_loopg [9, 10, 11, 12] (a.sz) (fun k _ _ _ _ wr => ∃ (a' : Tr) (y' : Value × Int), a'.sz = k ∧ RowAt wr w.heap.size #[y'.1, .int .i32 y'.2] 27 ∧ RowAt wr (w.heap.size + 1) #[a'.d, .int .i32 a'.l] 27 ∧ RowAt wr (w.heap.size + 1 + 1) #[b.d, .int .i32 b.l] 27 ∧ JoinIs 0 wr op a' (b.leaves op) y' ∧ a'.At wr ∧ b.At wr ∧ Below w.heap.size w wr)
  case atStart => exact ⟨a, y, rfl, ((RowAt.new _ _ _).alloc _).alloc _, (RowAt.newAt (by simp)).alloc _, RowAt.newAt (by simp), JoinIs.kept (K5.later (by go_grown)) HJ.out, HTA.out.kept (K5.later (by go_grown)), HTB.out.kept (K5.later (by go_grown)), by go_grown⟩
  case round =>
    obtain ⟨a', y', hsz, hRr, hRa, hRb, hJ, hA, hB, hbw⟩ := hrel
    clear HJ HTA HTB
    have hyn := hJ.node.one
    have fr0 := hRr.frozen 0
    have fr1 := hRr.frozen 1
    have fa0 := hRa.frozen 0
    have fa1 := hRa.frozen 1
    have r0 := hRr.cellv (j := 0) (v := y'.1) rfl
    have r1 := hRr.cellv (j := 1) (v := .int .i32 y'.2) rfl
    have b0 := hRb.cellv (j := 0) (v := b.d) rfl
    have b1 := hRb.cellv (j := 1) (v := .int .i32 b.l) rfl
    have HTB := Lib.hid hB
    have HRR := Lib.hid hRr
    have HRA := Lib.hid hRa
    have HRB := Lib.hid hRb
    have HBW := Lib.hid hbw
    have HSZ := Lib.hid hsz
    clear hRr hRb hB hbw hsz hyn
    cases a' with
    | leaf p l =>
      have a0 : wr.cell? ⟨w.heap.size + 1, 0, none⟩ = some (.iface 47 (.pointer (some ⟨p, 0, none⟩))) := hRa.cellv rfl
      have a1 : wr.cell? ⟨w.heap.size + 1, 1, none⟩ = some (.int .i32 l) := hRa.cellv rfl
      have HFOLD : Hid (FoldIs 0 wr op (dN p, l) (b.leaves op) y') := hJ
      have HAN : Hid (isNode (dN p, l)) := ⟨p, .inl rfl⟩
      clear hRa hJ hA
      obtain ⟨wo, rfl⟩ : ∃ wo : World, wo = wr := ⟨_, rfl⟩
      go_wp2_with fail
      refine (collect op b wo.heap.size (.slice none 0 0) [] _ HTB.out (Nat.le_refl _) (World.ownsRow_nil _ _ _ _) (by simp only [List.length_nil]; omega)).mono ?_
      rintro e w1 ⟨v, rfl, ho, hk, hbl⟩
      rw [List.nil_append] at ho
      have hll := b.leaves_len op
      have hlp := b.leaves_pos op
      have HNODE := Lib.hid (b.leaves_node op)
      obtain ⟨L, hL⟩ : ∃ L, b.leaves op = L := ⟨_, rfl⟩
      have HFL := HFOLD.out
      rw [hL] at ho hll hlp HFL HNODE
      obtain ⟨m, hm⟩ : ∃ m, L.length = m := ⟨_, rfl⟩
      have HM := Lib.hid hm
      rcases ho.2 with ⟨_, h2⟩ | ⟨g, cap, cur, hv, hgB, hg, hnc, hcm, hcs, htk⟩
      · omega
      have HTK := Lib.hid htk
      rw [hm] at hll hlp hnc hv
      subst hv
      unfold maxLen at hcm
      have hgr : RowAt w1 g cur 27 := hg
      have HG := Lib.hid hgr
      have R1 := Lib.hid (HRR.out.below hbl HRR.out.lt)
      have A1 := Lib.hid (HRA.out.below hbl HRA.out.lt)
      have F1 := Lib.hid (HFL.kept hk)
      have hgw : w.heap.size < g := Nat.lt_of_lt_of_le HRR.out.lt hgB
      have B1 := Lib.hid (HBW.out.trans (hbl.mono HBW.out.size))
      clear hL ho hm htk hg hgr hk hbl hgB hcs HRR HRA HRB HFOLD HTB HFL r0 r1 a0 a1 b0 b1 fr0 fr1 fa0 fa1 
      go_wp2_with fail
      go_loopw [14, 15, 16] (fun v14 _ _ w3 => ∃ (q : Int) (y2 : Value × Int), -1 ≤ q ∧ q < m ∧ v14 = .int .i64 q ∧ RowAt w3 w.heap.size #[y2.1, .int .i32 y2.2] 27 ∧ RowAt w3 (w.heap.size + 1) #[dN p, .int .i32 l] 27 ∧ RowAt w3 g cur 27 ∧ FoldIs 0 w3 op (dN p, l) (L.take (q + 1).toNat) y2 ∧ Below w.heap.size w w3) (fun v14 _ _ _ => (intOf v14 + 1).toNat)
      case atStart =>
        refine ⟨(m : Int) - 1, _, by omega, by omega, rfl, R1.out, A1.out, HG.out, ?_, B1.out⟩
        rw [show ((m : Int) - 1 + 1).toNat = L.length by rw [HM.out]; omega, List.take_length]
        exact F1.out
      case round =>
        obtain ⟨q, y2, hq0, hq1, rfl, hR, hA, hGr, hF, hb3⟩ := hrel
        clear R1 A1 HG F1 B1
        by_cases hq : 0 ≤ q
        · obtain ⟨k, rfl⟩ : ∃ k : Nat, q = k := ⟨q.toNat, by omega⟩
          have hk : k < m := by omega
          obtain ⟨r, hr⟩ : ∃ r, L[k]? = some r := ⟨_, List.getElem?_eq_getElem (by rw [HM.out]; exact hk)⟩
          have htake : L.take ((k : Int) + 1).toNat = L.take k ++ [r] := by
            rw [show ((k : Int) + 1).toNat = k + 1 by omega, List.take_add_one, hr]
            rfl
          rw [htake] at hF
          obtain ⟨p2, x, hy, _, hrow, hF2⟩ := hF.inv
          subst hy
          obtain ⟨c0, c1⟩ := flat_cells HTK.out hr
          have hrn := HNODE.out r (List.mem_of_getElem? hr)
          have hxo := (hF2.node HAN.out).one
          have hst := fun (A : Addr) (W : World) (m : Mode) => run_store Try.prog W A x.1 m hxo
          have k0 := hGr.cellv c0
          have k1 := hGr.cellv c1
          have s0 : wr.cell? ⟨w.heap.size, 0, none⟩ = some (.iface 50 (.pointer (some ⟨p2, 0, none⟩))) := hR.cellv rfl
          have s1 : wr.cell? ⟨w.heap.size, 1, none⟩ = some (.int .i32 l) := hR.cellv rfl
          have fs0 := hR.frozen 0
          have fs1 := hR.frozen 1
          have t1 : wr.cell? ⟨w.heap.size + 1, 1, none⟩ = some (.int .i32 l) := hA.cellv rfl
          have p0 := hrow.cellv (j := 0) (v := x.1) rfl
          have p1 := hrow.cellv (j := 1) (v := .int .i32 x.2) rfl
          have p2' := hrow.cellv (j := 2) (v := r.1) rfl
          have p3 := hrow.cellv (j := 3) (v := .int .i32 r.2) rfl
          have p4 := hrow.cellv (j := 4) (v := .int .u8 op) rfl
          have p5 := hrow.cellv (j := 5) (v := .bool false) rfl
          have hn1 : p2 ≠ w.heap.size := hrow.ne hR (by decide)
          have HR := Lib.hid hR
          have HA := Lib.hid hA
          have HGR := Lib.hid hGr
          have HF2 := Lib.hid hF2
          have HB3 := Lib.hid hb3
          have HROW := Lib.hid hrow
          have hq2 : ((k : Int)).toNat = k := by omega
          clear hR hA hGr hF hb3 htake hr hrow c0 c1 hF2 hq hq2 hxo
          go_wp2_with fail
          go_still_tail 32, (by kernel_rfl)
          go_wp2_with fail
          refine (same27 r hrn _).mono ?_
          rintro e w4 ⟨rfl, b4⟩
          have b4' : Below wr.heap.size wr w4 := ⟨b4.os, b4.tape, b4.output, b4.size, b4.block⟩
          have R4 := HR.out.below b4' HR.out.lt
          have A4 := HA.out.below b4' HA.out.lt
          have G4 := HGR.out.below b4' HGR.out.lt
          have P4 := HROW.out.below b4' HROW.out.lt
          have F4 := HF2.out.kept (K5.later b4')
          have B4 := HB3.out.trans (b4'.mono HB3.out.size)
          clear s0 s1 fs0 fs1 t1 p0 p1 p2' p3 p4 p5 k0 k1 HR HA HGR HF2 HB3 HROW b4 b4'
          have s0 : w4.cell? ⟨w.heap.size, 0, none⟩ = some (.iface 50 (.pointer (some ⟨p2, 0, none⟩))) := R4.cellv rfl
          have s1 : w4.cell? ⟨w.heap.size, 1, none⟩ = some (.int .i32 l) := R4.cellv rfl
          have fs0 := R4.frozen 0
          have fs1 := R4.frozen 1
          have p0 := P4.cellv (j := 0) (v := x.1) rfl
          have p1 := P4.cellv (j := 1) (v := .int .i32 x.2) rfl
          have HR := Lib.hid R4
          have HA := Lib.hid A4
          have HGR := Lib.hid G4
          have HF := Lib.hid F4
          have HB := Lib.hid B4
          clear R4 A4 G4 P4 F4 B4
          go_wp2_with fail
          go_roundw
          case rel =>
            have e1 : ((k : Int) - 1 + 1).toNat = k := by omega
            refine ⟨(k : Int) - 1, x, by omega, by omega, rfl, (HR.out.set 0 _).set 1 _, (HA.out.set_other (by omega) 0 _).set_other (by omega) 1 _, (HGR.out.set_other (by omega) 0 _).set_other (by omega) 1 _, ?_, (HB.out.setCell (Nat.le_refl _) _).setCell (Nat.le_refl _) _⟩
            rw [e1]
            exact HF.out.kept ((K5.box HR.out (by decide) 0 _).trans (K5.box (HR.out.set 0 _) (by decide) 1 _))
          case measure => first | (simp [intOf]; done) | (simp [intOf]; omega)
        · obtain rfl : q = -1 := by omega
          have hF0 : FoldIs 0 wr op (dN p, l) [] y2 := hF
          have hy := hF0.inv0
          subst hy
          have s0 : wr.cell? ⟨w.heap.size, 0, none⟩ = some (.iface 47 (.pointer (some ⟨p, 0, none⟩))) := hR.cellv rfl
          have s1 : wr.cell? ⟨w.heap.size, 1, none⟩ = some (.int .i32 l) := hR.cellv rfl
          have t0 : wr.cell? ⟨w.heap.size + 1, 0, none⟩ = some (.iface 47 (.pointer (some ⟨p, 0, none⟩))) := hA.cellv rfl
          have t1 : wr.cell? ⟨w.heap.size + 1, 1, none⟩ = some (.int .i32 l) := hA.cellv rfl
          have HB3 := Lib.hid hb3
          clear hR hA hGr hF hF0 hb3 hq
          go_wp2_with fail
          refine (same27 (dN p, l) HAN.out _).mono ?_
          rintro e w4 ⟨rfl, b4⟩
          have B4 := Lib.hid (HB3.out.trans (b4.mono HB3.out.size))
          clear b4
          go_wp2_with fail
          go_ret
          exact ⟨rfl, B4.out⟩
    | bin p l o g c d =>
      have a0 : wr.cell? ⟨w.heap.size + 1, 0, none⟩ = some (.iface 50 (.pointer (some ⟨p, 0, none⟩))) := hRa.cellv rfl
      have a1 : wr.cell? ⟨w.heap.size + 1, 1, none⟩ = some (.int .i32 l) := hRa.cellv rfl
      obtain ⟨hrp, hc, hd⟩ := hA
      have q0 := hrp.cellv (j := 0) (v := c.d) rfl
      have q1 := hrp.cellv (j := 1) (v := .int .i32 c.l) rfl
      have q2 := hrp.cellv (j := 2) (v := d.d) rfl
      have q3 := hrp.cellv (j := 3) (v := .int .i32 d.l) rfl
      have q4 := hrp.cellv (j := 4) (v := .int .u8 o) rfl
      have q5 := hrp.cellv (j := 5) (v := .bool g) rfl
      have m1 : p ≠ w.heap.size + 1 := hrp.ne hRa (by decide)
      have m2 : p ≠ w.heap.size := hrp.ne HRR.out (by decide)
      by_cases ho : o = 36
      · subst ho
        unfold JoinIs at hJ
        rw [if_pos rfl] at hJ
        obtain ⟨q, x, hy, _, hrq, hJ2⟩ := hJ
        subst hy
        have s0 : wr.cell? ⟨w.heap.size, 0, none⟩ = some (.iface 50 (.pointer (some ⟨q, 0, none⟩))) := r0
        have s1 : wr.cell? ⟨w.heap.size, 1, none⟩ = some (.int .i32 l) := r1
        have u0 := hrq.cellv (j := 0) (v := c.d) rfl
        have u1 := hrq.cellv (j := 1) (v := .int .i32 c.l) rfl
        have u2 := hrq.cellv (j := 2) (v := x.1) rfl
        have u3 := hrq.cellv (j := 3) (v := .int .i32 x.2) rfl
        have u4 := hrq.cellv (j := 4) (v := .int .u8 36) rfl
        have u5 := hrq.cellv (j := 5) (v := .bool g) rfl
        have m3 : q ≠ w.heap.size + 1 := hrq.ne hRa (by decide)
        have m4 : q ≠ w.heap.size := hrq.ne HRR.out (by decide)
        have hxo := hJ2.node.one
        have hst := fun (A : Addr) (W : World) (m : Mode) => run_store Try.prog W A x.1 m hxo
        have hst2 := fun (A : Addr) (W : World) (m : Mode) => run_store Try.prog W A d.d m d.d_one
        have HJ2 := Lib.hid hJ2
        have HD := Lib.hid hd
        have HRP := Lib.hid hrp
        have HRQ := Lib.hid hrq
        clear hRa hc hd hrp hrq hJ2 hxo r0 r1
        go_wp2_with fail
        go_still_tail 36, (by kernel_rfl)
        go_wp2_with fail
        refine (same27 (c.d, c.l) c.isNode _).mono ?_
        rintro e w4 ⟨rfl, b4⟩
        have b4' : Below wr.heap.size wr w4 := ⟨b4.os, b4.tape, b4.output, b4.size, b4.block⟩
        have R4 := HRR.out.below b4' HRR.out.lt
        have A4 := HRA.out.below b4' HRA.out.lt
        have G4 := HRB.out.below b4' HRB.out.lt
        have P4 := HRP.out.below b4' HRP.out.lt
        have Q4 := HRQ.out.below b4' HRQ.out.lt
        have HJ4 := Lib.hid (JoinIs.kept (K5.later b4') HJ2.out)
        have HD4 := Lib.hid (HD.out.kept (K5.later b4'))
        have HB4 := Lib.hid (HTB.out.kept (K5.later b4'))
        have BW4 := Lib.hid (HBW.out.trans (b4'.mono HBW.out.size))
        clear s0 s1 u0 u1 u2 u3 u4 u5 q0 q1 q2 q3 q4 q5 a0 a1 b0 b1 fr0 fr1 fa0 fa1 HRR HRA HRB HRP HRQ HJ2 HD HTB HBW b4 b4'
        have s0 : w4.cell? ⟨w.heap.size, 0, none⟩ = some (.iface 50 (.pointer (some ⟨q, 0, none⟩))) := R4.cellv rfl
        have s1 : w4.cell? ⟨w.heap.size, 1, none⟩ = some (.int .i32 l) := R4.cellv rfl
        have a0 : w4.cell? ⟨w.heap.size + 1, 0, none⟩ = some (.iface 50 (.pointer (some ⟨p, 0, none⟩))) := A4.cellv rfl
        have a1 : w4.cell? ⟨w.heap.size + 1, 1, none⟩ = some (.int .i32 l) := A4.cellv rfl
        have fr0 := R4.frozen 0
        have fr1 := R4.frozen 1
        have fa0 := A4.frozen 0
        have fa1 := A4.frozen 1
        have u2 := Q4.cellv (j := 2) (v := x.1) rfl
        have u3 := Q4.cellv (j := 3) (v := .int .i32 x.2) rfl
        have q2 := P4.cellv (j := 2) (v := d.d) rfl
        have q3 := P4.cellv (j := 3) (v := .int .i32 d.l) rfl
        have HR := Lib.hid R4
        have HA := Lib.hid A4
        have HG := Lib.hid G4
        clear R4 A4 G4 P4 Q4
        go_wp2_with fail
        go_roundg d.sz
        case measure =>
          have hs := HSZ.out
          simp only [Tr.sz] at hs
          omega
        case rel =>
          have n1 : w.heap.size + 1 ≠ w.heap.size := by omega
          have n2 : w.heap.size + 1 + 1 ≠ w.heap.size := by omega
          have n3 : w.heap.size + 1 + 1 ≠ w.heap.size + 1 := by omega
          have RA2 := (HA.out.set_other n1 0 x.1).set_other n1 1 (.int .i32 x.2)
          have KK : K5 0 w4 ((((w4.setCell ⟨w.heap.size, 0, none⟩ x.1).setCell ⟨w.heap.size, 1, none⟩ (.int .i32 x.2)).setCell ⟨w.heap.size + 1, 0, none⟩ d.d).setCell ⟨w.heap.size + 1, 1, none⟩ (.int .i32 d.l)) :=
            ((K5.box HR.out (by decide) 0 _).trans (K5.box (HR.out.set 0 _) (by decide) 1 _)).trans ((K5.box RA2 (by decide) 0 _).trans (K5.box (RA2.set 0 _) (by decide) 1 _))
          exact ⟨d, x, rfl, (((HR.out.set 0 _).set 1 _).set_other n1.symm 0 _).set_other n1.symm 1 _, (RA2.set 0 _).set 1 _, (((HG.out.set_other n2 0 _).set_other n2 1 _).set_other n3 0 _).set_other n3 1 _, JoinIs.kept KK HJ4.out, HD4.out.kept KK, HB4.out.kept KK, (((BW4.out.setCell (Nat.le_refl _) _).setCell (Nat.le_refl _) _).setCell (Nat.le_succ _) _).setCell (Nat.le_succ _) _⟩
      · have HFOLD : Hid (FoldIs 0 wr op (dB p, l) (b.leaves op) y') := by
          unfold JoinIs at hJ
          rw [if_neg ho] at hJ
          exact hJ
        have HAN : Hid (isNode (dB p, l)) := ⟨p, .inr rfl⟩
        have ho' : (o == 36) = false := by simpa using ho
        have ho2 : (o != 36) = true := by simpa using ho
        clear hRa hJ hc hd hrp ho
        obtain ⟨wo, rfl⟩ : ∃ wo : World, wo = wr := ⟨_, rfl⟩
        go_wp2_with fail
        refine (collect op b wo.heap.size (.slice none 0 0) [] _ HTB.out (Nat.le_refl _) (World.ownsRow_nil _ _ _ _) (by simp only [List.length_nil]; omega)).mono ?_
        rintro e w1 ⟨v, rfl, ho, hk, hbl⟩
        rw [List.nil_append] at ho
        have hll := b.leaves_len op
        have hlp := b.leaves_pos op
        have HNODE := Lib.hid (b.leaves_node op)
        obtain ⟨L, hL⟩ : ∃ L, b.leaves op = L := ⟨_, rfl⟩
        have HFL := HFOLD.out
        rw [hL] at ho hll hlp HFL HNODE
        obtain ⟨m, hm⟩ : ∃ m, L.length = m := ⟨_, rfl⟩
        have HM := Lib.hid hm
        rcases ho.2 with ⟨_, h2⟩ | ⟨g, cap, cur, hv, hgB, hg, hnc, hcm, hcs, htk⟩
        · omega
        have HTK := Lib.hid htk
        rw [hm] at hll hlp hnc hv
        subst hv
        unfold maxLen at hcm
        have hgr : RowAt w1 g cur 27 := hg
        have HG := Lib.hid hgr
        have R1 := Lib.hid (HRR.out.below hbl HRR.out.lt)
        have A1 := Lib.hid (HRA.out.below hbl HRA.out.lt)
        have F1 := Lib.hid (HFL.kept hk)
        have hgw : w.heap.size < g := Nat.lt_of_lt_of_le HRR.out.lt hgB
        have B1 := Lib.hid (HBW.out.trans (hbl.mono HBW.out.size))
        clear hL ho hm htk hg hgr hk hbl hgB hcs HRR HRA HRB HFOLD HTB HFL r0 r1 a0 a1 b0 b1 fr0 fr1 fa0 fa1 q0 q1 q2 q3 q4 q5
        go_wp2_with fail
        go_loopw [14, 15, 16] (fun v14 _ _ w3 => ∃ (q : Int) (y2 : Value × Int), -1 ≤ q ∧ q < m ∧ v14 = .int .i64 q ∧ RowAt w3 w.heap.size #[y2.1, .int .i32 y2.2] 27 ∧ RowAt w3 (w.heap.size + 1) #[dB p, .int .i32 l] 27 ∧ RowAt w3 g cur 27 ∧ FoldIs 0 w3 op (dB p, l) (L.take (q + 1).toNat) y2 ∧ Below w.heap.size w w3) (fun v14 _ _ _ => (intOf v14 + 1).toNat)
        case atStart =>
          refine ⟨(m : Int) - 1, _, by omega, by omega, rfl, R1.out, A1.out, HG.out, ?_, B1.out⟩
          rw [show ((m : Int) - 1 + 1).toNat = L.length by rw [HM.out]; omega, List.take_length]
          exact F1.out
        case round =>
          obtain ⟨q, y2, hq0, hq1, rfl, hR, hA, hGr, hF, hb3⟩ := hrel
          clear R1 A1 HG F1 B1
          by_cases hq : 0 ≤ q
          · obtain ⟨k, rfl⟩ : ∃ k : Nat, q = k := ⟨q.toNat, by omega⟩
            have hk : k < m := by omega
            obtain ⟨r, hr⟩ : ∃ r, L[k]? = some r := ⟨_, List.getElem?_eq_getElem (by rw [HM.out]; exact hk)⟩
            have htake : L.take ((k : Int) + 1).toNat = L.take k ++ [r] := by
              rw [show ((k : Int) + 1).toNat = k + 1 by omega, List.take_add_one, hr]
              rfl
            rw [htake] at hF
            obtain ⟨p2, x, hy, _, hrow, hF2⟩ := hF.inv
            subst hy
            obtain ⟨c0, c1⟩ := flat_cells HTK.out hr
            have hrn := HNODE.out r (List.mem_of_getElem? hr)
            have hxo := (hF2.node HAN.out).one
            have hst := fun (A : Addr) (W : World) (m : Mode) => run_store Try.prog W A x.1 m hxo
            have k0 := hGr.cellv c0
            have k1 := hGr.cellv c1
            have s0 : wr.cell? ⟨w.heap.size, 0, none⟩ = some (.iface 50 (.pointer (some ⟨p2, 0, none⟩))) := hR.cellv rfl
            have s1 : wr.cell? ⟨w.heap.size, 1, none⟩ = some (.int .i32 l) := hR.cellv rfl
            have fs0 := hR.frozen 0
            have fs1 := hR.frozen 1
            have t1 : wr.cell? ⟨w.heap.size + 1, 1, none⟩ = some (.int .i32 l) := hA.cellv rfl
            have p0 := hrow.cellv (j := 0) (v := x.1) rfl
            have p1 := hrow.cellv (j := 1) (v := .int .i32 x.2) rfl
            have p2' := hrow.cellv (j := 2) (v := r.1) rfl
            have p3 := hrow.cellv (j := 3) (v := .int .i32 r.2) rfl
            have p4 := hrow.cellv (j := 4) (v := .int .u8 op) rfl
            have p5 := hrow.cellv (j := 5) (v := .bool false) rfl
            have hn1 : p2 ≠ w.heap.size := hrow.ne hR (by decide)
            have HR := Lib.hid hR
            have HA := Lib.hid hA
            have HGR := Lib.hid hGr
            have HF2 := Lib.hid hF2
            have HB3 := Lib.hid hb3
            have HROW := Lib.hid hrow
            have hq2 : ((k : Int)).toNat = k := by omega
            clear hR hA hGr hF hb3 htake hr hrow c0 c1 hF2 hq hq2 hxo
            go_wp2_with fail
            go_still_tail 32, (by kernel_rfl)
            go_wp2_with fail
            refine (same27 r hrn _).mono ?_
            rintro e w4 ⟨rfl, b4⟩
            have b4' : Below wr.heap.size wr w4 := ⟨b4.os, b4.tape, b4.output, b4.size, b4.block⟩
            have R4 := HR.out.below b4' HR.out.lt
            have A4 := HA.out.below b4' HA.out.lt
            have G4 := HGR.out.below b4' HGR.out.lt
            have P4 := HROW.out.below b4' HROW.out.lt
            have F4 := HF2.out.kept (K5.later b4')
            have B4 := HB3.out.trans (b4'.mono HB3.out.size)
            clear s0 s1 fs0 fs1 t1 p0 p1 p2' p3 p4 p5 k0 k1 HR HA HGR HF2 HB3 HROW b4 b4'
            have s0 : w4.cell? ⟨w.heap.size, 0, none⟩ = some (.iface 50 (.pointer (some ⟨p2, 0, none⟩))) := R4.cellv rfl
            have s1 : w4.cell? ⟨w.heap.size, 1, none⟩ = some (.int .i32 l) := R4.cellv rfl
            have fs0 := R4.frozen 0
            have fs1 := R4.frozen 1
            have p0 := P4.cellv (j := 0) (v := x.1) rfl
            have p1 := P4.cellv (j := 1) (v := .int .i32 x.2) rfl
            have HR := Lib.hid R4
            have HA := Lib.hid A4
            have HGR := Lib.hid G4
            have HF := Lib.hid F4
            have HB := Lib.hid B4
            clear R4 A4 G4 P4 F4 B4
            go_wp2_with fail
            go_roundw
            case rel =>
              have e1 : ((k : Int) - 1 + 1).toNat = k := by omega
              refine ⟨(k : Int) - 1, x, by omega, by omega, rfl, (HR.out.set 0 _).set 1 _, (HA.out.set_other (by omega) 0 _).set_other (by omega) 1 _, (HGR.out.set_other (by omega) 0 _).set_other (by omega) 1 _, ?_, (HB.out.setCell (Nat.le_refl _) _).setCell (Nat.le_refl _) _⟩
              rw [e1]
              exact HF.out.kept ((K5.box HR.out (by decide) 0 _).trans (K5.box (HR.out.set 0 _) (by decide) 1 _))
            case measure => first | (simp [intOf]; done) | (simp [intOf]; omega)
          · obtain rfl : q = -1 := by omega
            have hF0 : FoldIs 0 wr op (dB p, l) [] y2 := hF
            have hy := hF0.inv0
            subst hy
            have s0 : wr.cell? ⟨w.heap.size, 0, none⟩ = some (.iface 50 (.pointer (some ⟨p, 0, none⟩))) := hR.cellv rfl
            have s1 : wr.cell? ⟨w.heap.size, 1, none⟩ = some (.int .i32 l) := hR.cellv rfl
            have t0 : wr.cell? ⟨w.heap.size + 1, 0, none⟩ = some (.iface 50 (.pointer (some ⟨p, 0, none⟩))) := hA.cellv rfl
            have t1 : wr.cell? ⟨w.heap.size + 1, 1, none⟩ = some (.int .i32 l) := hA.cellv rfl
            have HB3 := Lib.hid hb3
            clear hR hA hGr hF hF0 hb3 hq
            go_wp2_with fail
            refine (same27 (dB p, l) HAN.out _).mono ?_
            rintro e w4 ⟨rfl, b4⟩
            have B4 := Lib.hid (HB3.out.trans (b4.mono HB3.out.size))
            clear b4
            go_wp2_with fail
            go_ret
            exact ⟨rfl, B4.out⟩

end Go.Proofs.Ytailfkedgdlldac
