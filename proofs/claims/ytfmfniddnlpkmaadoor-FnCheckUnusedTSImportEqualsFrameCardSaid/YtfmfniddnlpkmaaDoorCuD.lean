import Derived.Test.YtfmfniddnlpkmaaDoorKit
import Derived.Test.YtfmfniddnlpkmaaDoorCuC
import Derived.Test.YtfmfniddnlpkmaaDoorAs
namespace Go.Proofs.YtfmfniddnlpkmaaDoor
open Go.ChangeShapes Go.WideShapes Go.ChangeAt Go.RowKit
set_option linter.unusedVariables false
set_option maxRecDepth 100000
set_option maxHeartbeats 2000000

/-- What the look leaves: the counts as they were, or symbol k's one less. -/
def Chk (p S n k R : Nat) (f : Nat → Int) (w : World) (e : Ending) (w' : World) : Prop := ∃ r : Bool, e = .returned (.bool r) ∧
  (∃ a b, RowAt w' R #[.slice none 0 0, .bool a, .bool b] 230) ∧ St w' p S n (if r then updN f k ((f k - 1) % 4294967296) else f) ∧ Fr (fun j => j = S ∨ j = R) w w'

theorem early31 (p S n k R s : Nat) (was ex : Bool) (b t c : Nat) (a1 a2 : Bool) (f : Nat → Int) (w : World) (h : St w p S n f) (hs : SLoc w s was ex b t k c) (hR : RowAt w R #[.slice none 0 0, .bool a1, .bool a2] 230) (he : was = false ∨ ex = true) :
    Calls Tryd.prog 31 #[.pointer (some ⟨p, 0, none⟩), .pointer (some ⟨s, 0, none⟩), .pointer (some ⟨R, 0, none⟩)] w (Chk p S n k R f w) := by
  obtain ⟨cs, D, h1, h2, h3, h4, _⟩ := hs
  have c2 := h1.cellv h3
  have c3 := h1.cellv h4
  have H := Lib.hid h
  have HR := Lib.hid hR
  clear h1 h2 h3 h4 h hR
  rcases he with rfl | rfl
  · go_enter Tryd.func31, Tryd.ntmps31
    go_wp2_with fail
    go_ret
    exact ⟨_, rfl, ⟨_, _, HR.out⟩, H.out, Fr.refl⟩
  · cases was
    · go_enter Tryd.func31, Tryd.ntmps31
      go_wp2_with fail
      go_ret
      exact ⟨_, rfl, ⟨_, _, HR.out⟩, H.out, Fr.refl⟩
    · go_enter Tryd.func31, Tryd.ntmps31
      go_wp2_with fail
      go_ret
      exact ⟨_, rfl, ⟨_, _, HR.out⟩, H.out, Fr.refl⟩

theorem below_drewN' {B : Nat} {w w' : World} (h : Below B w w') (n : Nat) : Below B w (w'.drewN n) := ⟨h.os, h.tape, h.output, h.size, h.block⟩

theorem IR.fr {X : Nat → Prop} {w w' : World} (h : IR w) (hf : Fr X w w') (hX : ∀ j, X j → 1 ≤ j) : IR w' := by
  have hb := hf.below hX (cell_lt h.1)
  exact ⟨(hb.cell (p := ⟨0, 0, none⟩) (by decide)).trans h.1, (hb.cell (p := ⟨0, 1, none⟩) (by decide)).trans h.2⟩

theorem look31 (p S n k R s : Nat) (b t c : Nat) (a1 a2 : Bool) (f : Nat → Int) (w : World) (hn : n ≤ 65536) (hk : k < n) (hbn : b < n) (h : St w p S n f) (hs : SLoc w s true false b t k c) (hR : RowAt w R #[.slice none 0 0, .bool a1, .bool a2] 230) (hI : IR w) (hS0 : 1 ≤ S) (hR0 : 1 ≤ R) :
    Calls Tryd.prog 31 #[.pointer (some ⟨p, 0, none⟩), .pointer (some ⟨s, 0, none⟩), .pointer (some ⟨R, 0, none⟩)] w (Chk p S n k R f w) := by
  obtain ⟨cs, D, h1, h2, h3, h4, ds, d, q, qs, g1, g2, g3, g4, g5, g6, g7, g8, g9⟩ := hs
  have c0 := h1.cellv h2
  have c2 := h1.cellv h3
  have c3 := h1.cellv h4
  have e0 := g1.cellv g2
  have e1 := g1.cellv g3
  have e2 := g1.cellv g4
  have e3 := g1.cellv g5
  have z1 := h1.lt
  have z2 := g1.lt
  have HQ := Lib.hid g6
  have HQ0 := Lib.hid g7
  have HQ1 := Lib.hid g8
  have HC := Lib.hid g9
  have H := Lib.hid h
  have HR := Lib.hid hR
  have HI := Lib.hid hI
  have hd := g9.shape
  clear h1 h2 h3 h4 h hR g1 g2 g3 g4 g5 g6 g7 g8 g9 hI
  rcases hd with rfl | ⟨U, u, rfl⟩
  · go_enter Tryd.func31, Tryd.ntmps31
    go_wp2_with fail
    go_loopg [9, 10] c (fun i v9 v10 wr => ∃ d', Ch wr t k i d' ∧ RowAt wr (w.heap.size + 1) #[d', .int .i32 0] 38 ∧ RowAt wr w.heap.size #[.iface 213 (.pointer (some ⟨q, 0, none⟩)), .int .i32 0, .nilIface, .int .i32 0] 221 ∧ RowAt wr q qs 215 ∧ St wr p S n f ∧ RowAt wr R #[.slice none 0 0, .bool a1, .bool a2] 230 ∧ Fr (fun j => j = S ∨ j = R) w wr)
    case atStart =>
      have hb : Below w.heap.size w ((w.alloc (.cells #[.iface 213 (.pointer (some ⟨q, 0, none⟩)), .int .i32 0, .nilIface, .int .i32 0] 221)).alloc (.cells #[.nilIface, .int .i32 0] 38)) := by go_grown
      exact ⟨_, HC.out.below hb, RowAt.newAt (by go_size), (RowAt.new _ _ _).alloc _, HQ.out.below hb HQ.out.lt, H.out.below hb, HR.out.below hb HR.out.lt, Fr.of_below hb⟩
    case round =>
      obtain ⟨d', hC, hV, hD, hQ, hS, hRR, hF⟩ := hrel
      have HC2 := Lib.hid hC
      have HV := Lib.hid hV
      have HD := Lib.hid hD
      have HQ2 := Lib.hid hQ
      have HS := Lib.hid hS
      have HR2 := Lib.hid hRR
      have HF := Lib.hid hF
      have HI2 : Hid (IR wr) := HI.out.fr hF (by rintro j (rfl | rfl) <;> assumption)
      have zv := hV.lt
      have zd := hD.lt
      have fv0 := hV.frozen 0
      have fv1 := hV.frozen 1
      have s1 := hV.cellv (j := 1) (v := .int .i32 0) rfl
      clear hV hD hQ hS hRR hF HC HQ H HR HI
      cases gk with
      | succ i =>
        obtain ⟨y, ys, d2, rfl, hy, y0, y1, hC2⟩ := hC
        have s0 := HV.out.cellv (j := 0) (v := .iface 209 (.pointer (some ⟨y, 0, none⟩))) rfl
        have r1 := hy.cellv y1
        have r0 := hy.cellv y0
        have HC3 := Lib.hid hC2
        have ne : y ≠ w.heap.size + 1 := hy.ne HV.out (by decide)
        have hsh := hC2.shape
        clear hy y0 y1 hC2 HC2
        rcases hsh with rfl | ⟨V, v, rfl⟩
        · go_wp2_with fail
          go_roundg i
          case measure => omega
          case rel =>
            have hb : ∀ j, j ≠ w.heap.size + 1 → ((wr.setCell ⟨w.heap.size + 1, 0, none⟩ .nilIface).setCell ⟨w.heap.size + 1, 1, none⟩ (.int .i32 0)).heap[j]? = wr.heap[j]? := fun j hj => by rw [Below.heap_setCell _ _ _ _ hj, Below.heap_setCell _ _ _ _ hj]
            exact ⟨_, HC3.out.kept (fun j hj => by obtain ⟨_, u, hr, hu⟩ := hj; exact hb j (hr.ne HV.out (by rcases hu with rfl | rfl | rfl <;> decide))), (HV.out.set 0 .nilIface).set 1 (.int .i32 0), HD.out.kept (hb _ (by omega)), HQ2.out.kept (hb _ (HQ2.out.ne HV.out (by decide))), (HS.out.set_row HV.out (by decide) (by decide) 0 .nilIface).set_row (HV.out.set 0 .nilIface) (by decide) (by decide) 1 _, HR2.out.kept (hb _ (HR2.out.ne HV.out (by decide))), (HF.out.set (.inr (by omega))).set (.inr (by omega))⟩
        · go_wp2_with fail
          go_roundg i
          case measure => omega
          case rel =>
            have hb : ∀ j, j ≠ w.heap.size + 1 → ((wr.setCell ⟨w.heap.size + 1, 0, none⟩ (.iface V (.pointer (some ⟨v, 0, none⟩)))).setCell ⟨w.heap.size + 1, 1, none⟩ (.int .i32 0)).heap[j]? = wr.heap[j]? := fun j hj => by rw [Below.heap_setCell _ _ _ _ hj, Below.heap_setCell _ _ _ _ hj]
            exact ⟨_, HC3.out.kept (fun j hj => by obtain ⟨_, u, hr, hu⟩ := hj; exact hb j (hr.ne HV.out (by rcases hu with rfl | rfl | rfl <;> decide))), (HV.out.set 0 (.iface V (.pointer (some ⟨v, 0, none⟩)))).set 1 (.int .i32 0), HD.out.kept (hb _ (by omega)), HQ2.out.kept (hb _ (HQ2.out.ne HV.out (by decide))), (HS.out.set_row HV.out (by decide) (by decide) 0 (.iface V (.pointer (some ⟨v, 0, none⟩)))).set_row (HV.out.set 0 (.iface V (.pointer (some ⟨v, 0, none⟩)))) (by decide) (by decide) 1 _, HR2.out.kept (hb _ (HR2.out.ne HV.out (by decide))), (HF.out.set (.inr (by omega))).set (.inr (by omega))⟩
      | zero =>
        rcases hC with ⟨rfl, y, ys, rfl, hy, y0, y1⟩ | ⟨rfl, y, ys, rfl, hy, y0, y1⟩ | ⟨rfl, rfl⟩
        · have s0 := HV.out.cellv (j := 0) (v := .iface 203 (.pointer (some ⟨y, 0, none⟩))) rfl
          have r0 := hy.cellv y0
          have r1 := hy.cellv y1
          have zy := hy.lt
          clear hy y0 y1 HC2
          obtain ⟨i0, i1⟩ := HI2.out
          have zi := cell_lt i0
          simp only at zi
          have d0 := HD.out.cellv (j := 0) (v := .iface 213 (.pointer (some ⟨q, 0, none⟩))) rfl
          have q0 := HQ2.out.cellv HQ0.out
          have q1 := HQ2.out.cellv HQ1.out
          have zq := HQ2.out.lt
          obtain ⟨⟨ps, pr⟩, psy⟩ := id HS.out
          have p1 := pr.row.cellv pr.sym
          have zp := pr.row.lt
          have zS := psy.lt
          have b0 := psy.cell hbn
          obtain ⟨fb, hfb⟩ : ∃ fb, f b = fb := ⟨_, rfl⟩
          rw [hfb] at b0
          have t1 := HR2.out.cellv (j := 1) (v := .bool a1) rfl
          have t2 := HR2.out.cellv (j := 2) (v := .bool a2) rfl
          have ft1 := HR2.out.frozen 1
          have ft2 := HR2.out.frozen 2
          have zR := HR2.out.lt
          clear pr psy
          have hbw : ∀ nq, Below wr.heap.size wr (((wr.alloc (.cells #[.int .u32 0, .int .u32 k] 51)).alloc (.cells #[.int .u32 0, .int .u32 b] 51)).drewN nq) := fun nq => below_drewN' (by go_grown) nq
          by_cases hz : fb = 0
          · subst hz
            go_wp2_with fail
            go_quiet (fail)
            go_wp2_with fail
            refine (ign37 p S n k f _ hk hn (HS.out.below (hbw nq))).mono ?_
            rintro e w2 ⟨rfl, hS2, hF2⟩
            have HS2 := Lib.hid hS2
            have HR3 : Hid (RowAt w2 R #[.slice none 0 0, .bool a1, .bool a2] 230) := by
              have h1 := HR2.out.below (hbw nq) HR2.out.lt
              exact h1.kept (hF2.block R h1.lt (by rintro rfl; obtain ⟨es, s1, _⟩ := HS.out.Sy; exact HR2.out.ne s1 (by decide) rfl))
            have HF2 := Lib.hid ((HF.out.trans (Fr.of_below (hbw nq))).trans (hF2.mono fun j h => .inl h))
            have t3 := HR3.out.cellv (j := 2) (v := .bool a2) rfl
            have ft3 := HR3.out.frozen 2
            have zR3 := HR3.out.lt
            clear hS2 hF2 t1 t2 ft1 ft2 zR
            go_wp2_with fail
            go_ret
            exact ⟨true, rfl, ⟨_, _, HR3.out.set 2 _⟩, HS2.out.set_row HR3.out (by decide) (by decide) 2 _, HF2.out.set (.inl (.inr rfl))⟩
          · have hz' : (fb == 0) = false := by simpa using hz
            go_wp2_with fail
            go_quiet (fail)
            go_wp2_with fail
            go_ret
            exact ⟨false, rfl, ⟨_, _, (HR2.out.below (hbw nq) HR2.out.lt).set 1 _⟩, (HS.out.below (hbw nq)).set_row (HR2.out.below (hbw nq) HR2.out.lt) (by decide) (by decide) 1 _, (HF.out.trans (Fr.of_below (hbw nq))).set (.inl (.inr rfl))⟩
        · have s0 := HV.out.cellv (j := 0) (v := .iface 206 (.pointer (some ⟨y, 0, none⟩))) rfl
          have r0 := hy.cellv y0
          have r1 := hy.cellv y1
          have zy := hy.lt
          clear hy y0 y1 HC2
          obtain ⟨i0, i1⟩ := HI2.out
          have zi := cell_lt i0
          simp only at zi
          have d0 := HD.out.cellv (j := 0) (v := .iface 213 (.pointer (some ⟨q, 0, none⟩))) rfl
          have q0 := HQ2.out.cellv HQ0.out
          have q1 := HQ2.out.cellv HQ1.out
          have zq := HQ2.out.lt
          obtain ⟨⟨ps, pr⟩, psy⟩ := id HS.out
          have p1 := pr.row.cellv pr.sym
          have zp := pr.row.lt
          have zS := psy.lt
          have b0 := psy.cell hbn
          obtain ⟨fb, hfb⟩ : ∃ fb, f b = fb := ⟨_, rfl⟩
          rw [hfb] at b0
          have t1 := HR2.out.cellv (j := 1) (v := .bool a1) rfl
          have t2 := HR2.out.cellv (j := 2) (v := .bool a2) rfl
          have ft1 := HR2.out.frozen 1
          have ft2 := HR2.out.frozen 2
          have zR := HR2.out.lt
          clear pr psy
          have hbw : ∀ nq, Below wr.heap.size wr (((wr.alloc (.cells #[.int .u32 0, .int .u32 k] 51)).alloc (.cells #[.int .u32 0, .int .u32 b] 51)).drewN nq) := fun nq => below_drewN' (by go_grown) nq
          by_cases hz : fb = 0
          · subst hz
            go_wp2_with fail
            go_quiet (fail)
            go_wp2_with fail
            refine (ign37 p S n k f _ hk hn (HS.out.below (hbw nq))).mono ?_
            rintro e w2 ⟨rfl, hS2, hF2⟩
            have HS2 := Lib.hid hS2
            have HR3 : Hid (RowAt w2 R #[.slice none 0 0, .bool a1, .bool a2] 230) := by
              have h1 := HR2.out.below (hbw nq) HR2.out.lt
              exact h1.kept (hF2.block R h1.lt (by rintro rfl; obtain ⟨es, s1, _⟩ := HS.out.Sy; exact HR2.out.ne s1 (by decide) rfl))
            have HF2 := Lib.hid ((HF.out.trans (Fr.of_below (hbw nq))).trans (hF2.mono fun j h => .inl h))
            have t3 := HR3.out.cellv (j := 2) (v := .bool a2) rfl
            have ft3 := HR3.out.frozen 2
            have zR3 := HR3.out.lt
            clear hS2 hF2 t1 t2 ft1 ft2 zR
            go_wp2_with fail
            go_ret
            exact ⟨true, rfl, ⟨_, _, HR3.out.set 2 _⟩, HS2.out.set_row HR3.out (by decide) (by decide) 2 _, HF2.out.set (.inl (.inr rfl))⟩
          · have hz' : (fb == 0) = false := by simpa using hz
            go_wp2_with fail
            go_quiet (fail)
            go_wp2_with fail
            go_ret
            exact ⟨false, rfl, ⟨_, _, (HR2.out.below (hbw nq) HR2.out.lt).set 1 _⟩, (HS.out.below (hbw nq)).set_row (HR2.out.below (hbw nq) HR2.out.lt) (by decide) (by decide) 1 _, (HF.out.trans (Fr.of_below (hbw nq))).set (.inl (.inr rfl))⟩
        · have s0 := HV.out.cellv (j := 0) (v := .nilIface) rfl
          obtain ⟨i0, i1⟩ := HI2.out
          have zi := cell_lt i0
          simp only at zi
          clear HC2
          go_wp2_with fail
          go_ret
          exact ⟨false, rfl, ⟨_, _, HR2.out.alloc _⟩, HS.out.below (by go_grown), HF.out.alloc _⟩
  · go_enter Tryd.func31, Tryd.ntmps31
    go_wp2_with fail
    go_loopg [9, 10] c (fun i v9 v10 wr => ∃ d', Ch wr t k i d' ∧ RowAt wr (w.heap.size + 1) #[d', .int .i32 0] 38 ∧ RowAt wr w.heap.size #[.iface 213 (.pointer (some ⟨q, 0, none⟩)), .int .i32 0, (.iface U (.pointer (some ⟨u, 0, none⟩))), .int .i32 0] 221 ∧ RowAt wr q qs 215 ∧ St wr p S n f ∧ RowAt wr R #[.slice none 0 0, .bool a1, .bool a2] 230 ∧ Fr (fun j => j = S ∨ j = R) w wr)
    case atStart =>
      have hb : Below w.heap.size w ((w.alloc (.cells #[.iface 213 (.pointer (some ⟨q, 0, none⟩)), .int .i32 0, (.iface U (.pointer (some ⟨u, 0, none⟩))), .int .i32 0] 221)).alloc (.cells #[(.iface U (.pointer (some ⟨u, 0, none⟩))), .int .i32 0] 38)) := by go_grown
      exact ⟨_, HC.out.below hb, RowAt.newAt (by go_size), (RowAt.new _ _ _).alloc _, HQ.out.below hb HQ.out.lt, H.out.below hb, HR.out.below hb HR.out.lt, Fr.of_below hb⟩
    case round =>
      obtain ⟨d', hC, hV, hD, hQ, hS, hRR, hF⟩ := hrel
      have HC2 := Lib.hid hC
      have HV := Lib.hid hV
      have HD := Lib.hid hD
      have HQ2 := Lib.hid hQ
      have HS := Lib.hid hS
      have HR2 := Lib.hid hRR
      have HF := Lib.hid hF
      have HI2 : Hid (IR wr) := HI.out.fr hF (by rintro j (rfl | rfl) <;> assumption)
      have zv := hV.lt
      have zd := hD.lt
      have fv0 := hV.frozen 0
      have fv1 := hV.frozen 1
      have s1 := hV.cellv (j := 1) (v := .int .i32 0) rfl
      clear hV hD hQ hS hRR hF HC HQ H HR HI
      cases gk with
      | succ i =>
        obtain ⟨y, ys, d2, rfl, hy, y0, y1, hC2⟩ := hC
        have s0 := HV.out.cellv (j := 0) (v := .iface 209 (.pointer (some ⟨y, 0, none⟩))) rfl
        have r1 := hy.cellv y1
        have r0 := hy.cellv y0
        have HC3 := Lib.hid hC2
        have ne : y ≠ w.heap.size + 1 := hy.ne HV.out (by decide)
        have hsh := hC2.shape
        clear hy y0 y1 hC2 HC2
        rcases hsh with rfl | ⟨V, v, rfl⟩
        · go_wp2_with fail
          go_roundg i
          case measure => omega
          case rel =>
            have hb : ∀ j, j ≠ w.heap.size + 1 → ((wr.setCell ⟨w.heap.size + 1, 0, none⟩ .nilIface).setCell ⟨w.heap.size + 1, 1, none⟩ (.int .i32 0)).heap[j]? = wr.heap[j]? := fun j hj => by rw [Below.heap_setCell _ _ _ _ hj, Below.heap_setCell _ _ _ _ hj]
            exact ⟨_, HC3.out.kept (fun j hj => by obtain ⟨_, u, hr, hu⟩ := hj; exact hb j (hr.ne HV.out (by rcases hu with rfl | rfl | rfl <;> decide))), (HV.out.set 0 .nilIface).set 1 (.int .i32 0), HD.out.kept (hb _ (by omega)), HQ2.out.kept (hb _ (HQ2.out.ne HV.out (by decide))), (HS.out.set_row HV.out (by decide) (by decide) 0 .nilIface).set_row (HV.out.set 0 .nilIface) (by decide) (by decide) 1 _, HR2.out.kept (hb _ (HR2.out.ne HV.out (by decide))), (HF.out.set (.inr (by omega))).set (.inr (by omega))⟩
        · go_wp2_with fail
          go_roundg i
          case measure => omega
          case rel =>
            have hb : ∀ j, j ≠ w.heap.size + 1 → ((wr.setCell ⟨w.heap.size + 1, 0, none⟩ (.iface V (.pointer (some ⟨v, 0, none⟩)))).setCell ⟨w.heap.size + 1, 1, none⟩ (.int .i32 0)).heap[j]? = wr.heap[j]? := fun j hj => by rw [Below.heap_setCell _ _ _ _ hj, Below.heap_setCell _ _ _ _ hj]
            exact ⟨_, HC3.out.kept (fun j hj => by obtain ⟨_, u, hr, hu⟩ := hj; exact hb j (hr.ne HV.out (by rcases hu with rfl | rfl | rfl <;> decide))), (HV.out.set 0 (.iface V (.pointer (some ⟨v, 0, none⟩)))).set 1 (.int .i32 0), HD.out.kept (hb _ (by omega)), HQ2.out.kept (hb _ (HQ2.out.ne HV.out (by decide))), (HS.out.set_row HV.out (by decide) (by decide) 0 (.iface V (.pointer (some ⟨v, 0, none⟩)))).set_row (HV.out.set 0 (.iface V (.pointer (some ⟨v, 0, none⟩)))) (by decide) (by decide) 1 _, HR2.out.kept (hb _ (HR2.out.ne HV.out (by decide))), (HF.out.set (.inr (by omega))).set (.inr (by omega))⟩
      | zero =>
        rcases hC with ⟨rfl, y, ys, rfl, hy, y0, y1⟩ | ⟨rfl, y, ys, rfl, hy, y0, y1⟩ | ⟨rfl, rfl⟩
        · have s0 := HV.out.cellv (j := 0) (v := .iface 203 (.pointer (some ⟨y, 0, none⟩))) rfl
          have r0 := hy.cellv y0
          have r1 := hy.cellv y1
          have zy := hy.lt
          clear hy y0 y1 HC2
          obtain ⟨i0, i1⟩ := HI2.out
          have zi := cell_lt i0
          simp only at zi
          have d0 := HD.out.cellv (j := 0) (v := .iface 213 (.pointer (some ⟨q, 0, none⟩))) rfl
          have q0 := HQ2.out.cellv HQ0.out
          have q1 := HQ2.out.cellv HQ1.out
          have zq := HQ2.out.lt
          obtain ⟨⟨ps, pr⟩, psy⟩ := id HS.out
          have p1 := pr.row.cellv pr.sym
          have zp := pr.row.lt
          have zS := psy.lt
          have b0 := psy.cell hbn
          obtain ⟨fb, hfb⟩ : ∃ fb, f b = fb := ⟨_, rfl⟩
          rw [hfb] at b0
          have t1 := HR2.out.cellv (j := 1) (v := .bool a1) rfl
          have t2 := HR2.out.cellv (j := 2) (v := .bool a2) rfl
          have ft1 := HR2.out.frozen 1
          have ft2 := HR2.out.frozen 2
          have zR := HR2.out.lt
          clear pr psy
          have hbw : ∀ nq, Below wr.heap.size wr (((wr.alloc (.cells #[.int .u32 0, .int .u32 k] 51)).alloc (.cells #[.int .u32 0, .int .u32 b] 51)).drewN nq) := fun nq => below_drewN' (by go_grown) nq
          by_cases hz : fb = 0
          · subst hz
            go_wp2_with fail
            go_quiet (fail)
            go_wp2_with fail
            refine (ign37 p S n k f _ hk hn (HS.out.below (hbw nq))).mono ?_
            rintro e w2 ⟨rfl, hS2, hF2⟩
            have HS2 := Lib.hid hS2
            have HR3 : Hid (RowAt w2 R #[.slice none 0 0, .bool a1, .bool a2] 230) := by
              have h1 := HR2.out.below (hbw nq) HR2.out.lt
              exact h1.kept (hF2.block R h1.lt (by rintro rfl; obtain ⟨es, s1, _⟩ := HS.out.Sy; exact HR2.out.ne s1 (by decide) rfl))
            have HF2 := Lib.hid ((HF.out.trans (Fr.of_below (hbw nq))).trans (hF2.mono fun j h => .inl h))
            have t3 := HR3.out.cellv (j := 2) (v := .bool a2) rfl
            have ft3 := HR3.out.frozen 2
            have zR3 := HR3.out.lt
            clear hS2 hF2 t1 t2 ft1 ft2 zR
            go_wp2_with fail
            go_ret
            exact ⟨true, rfl, ⟨_, _, HR3.out.set 2 _⟩, HS2.out.set_row HR3.out (by decide) (by decide) 2 _, HF2.out.set (.inl (.inr rfl))⟩
          · have hz' : (fb == 0) = false := by simpa using hz
            go_wp2_with fail
            go_quiet (fail)
            go_wp2_with fail
            go_ret
            exact ⟨false, rfl, ⟨_, _, (HR2.out.below (hbw nq) HR2.out.lt).set 1 _⟩, (HS.out.below (hbw nq)).set_row (HR2.out.below (hbw nq) HR2.out.lt) (by decide) (by decide) 1 _, (HF.out.trans (Fr.of_below (hbw nq))).set (.inl (.inr rfl))⟩
        · have s0 := HV.out.cellv (j := 0) (v := .iface 206 (.pointer (some ⟨y, 0, none⟩))) rfl
          have r0 := hy.cellv y0
          have r1 := hy.cellv y1
          have zy := hy.lt
          clear hy y0 y1 HC2
          obtain ⟨i0, i1⟩ := HI2.out
          have zi := cell_lt i0
          simp only at zi
          have d0 := HD.out.cellv (j := 0) (v := .iface 213 (.pointer (some ⟨q, 0, none⟩))) rfl
          have q0 := HQ2.out.cellv HQ0.out
          have q1 := HQ2.out.cellv HQ1.out
          have zq := HQ2.out.lt
          obtain ⟨⟨ps, pr⟩, psy⟩ := id HS.out
          have p1 := pr.row.cellv pr.sym
          have zp := pr.row.lt
          have zS := psy.lt
          have b0 := psy.cell hbn
          obtain ⟨fb, hfb⟩ : ∃ fb, f b = fb := ⟨_, rfl⟩
          rw [hfb] at b0
          have t1 := HR2.out.cellv (j := 1) (v := .bool a1) rfl
          have t2 := HR2.out.cellv (j := 2) (v := .bool a2) rfl
          have ft1 := HR2.out.frozen 1
          have ft2 := HR2.out.frozen 2
          have zR := HR2.out.lt
          clear pr psy
          have hbw : ∀ nq, Below wr.heap.size wr (((wr.alloc (.cells #[.int .u32 0, .int .u32 k] 51)).alloc (.cells #[.int .u32 0, .int .u32 b] 51)).drewN nq) := fun nq => below_drewN' (by go_grown) nq
          by_cases hz : fb = 0
          · subst hz
            go_wp2_with fail
            go_quiet (fail)
            go_wp2_with fail
            refine (ign37 p S n k f _ hk hn (HS.out.below (hbw nq))).mono ?_
            rintro e w2 ⟨rfl, hS2, hF2⟩
            have HS2 := Lib.hid hS2
            have HR3 : Hid (RowAt w2 R #[.slice none 0 0, .bool a1, .bool a2] 230) := by
              have h1 := HR2.out.below (hbw nq) HR2.out.lt
              exact h1.kept (hF2.block R h1.lt (by rintro rfl; obtain ⟨es, s1, _⟩ := HS.out.Sy; exact HR2.out.ne s1 (by decide) rfl))
            have HF2 := Lib.hid ((HF.out.trans (Fr.of_below (hbw nq))).trans (hF2.mono fun j h => .inl h))
            have t3 := HR3.out.cellv (j := 2) (v := .bool a2) rfl
            have ft3 := HR3.out.frozen 2
            have zR3 := HR3.out.lt
            clear hS2 hF2 t1 t2 ft1 ft2 zR
            go_wp2_with fail
            go_ret
            exact ⟨true, rfl, ⟨_, _, HR3.out.set 2 _⟩, HS2.out.set_row HR3.out (by decide) (by decide) 2 _, HF2.out.set (.inl (.inr rfl))⟩
          · have hz' : (fb == 0) = false := by simpa using hz
            go_wp2_with fail
            go_quiet (fail)
            go_wp2_with fail
            go_ret
            exact ⟨false, rfl, ⟨_, _, (HR2.out.below (hbw nq) HR2.out.lt).set 1 _⟩, (HS.out.below (hbw nq)).set_row (HR2.out.below (hbw nq) HR2.out.lt) (by decide) (by decide) 1 _, (HF.out.trans (Fr.of_below (hbw nq))).set (.inl (.inr rfl))⟩
        · have s0 := HV.out.cellv (j := 0) (v := .nilIface) rfl
          obtain ⟨i0, i1⟩ := HI2.out
          have zi := cell_lt i0
          simp only at zi
          clear HC2
          go_wp2_with fail
          go_ret
          exact ⟨false, rfl, ⟨_, _, HR2.out.alloc _⟩, HS.out.below (by go_grown), HF.out.alloc _⟩

end Go.Proofs.YtfmfniddnlpkmaaDoor
