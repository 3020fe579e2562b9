import Derived.Test.YtpehladamabedaaKit
import Derived.Test.YtpehladamabedaaPrD
import Derived.LaidEqlPtr
namespace Go.Proofs.Ytpehladamabedaa.fnExtractPrivateIndexTable
open Go.ChangeShapes Go.WideShapes Go.ChangeAt Go.RowKit
set_option linter.unusedVariables false
set_option maxRecDepth 100000
set_option maxHeartbeats 2000000

theorem eqlP (p : Addr) (W : World) : (binOp .eql 40 (.pointer (some p)) (.pointer (some p))).run Try.prog W = .ok (.bool true) W := by
  obtain ⟨j, hj⟩ : ∃ j, Try.prog.info? 101 = some j := Option.isSome_iff_exists.1 (by kernel_rfl)
  exact run_eql_ptr_same W p Try.underlying40 hj

theorem row2_ne {w : World} {R y : Nat} {a b v : Value} {T : TypeId} (h : RowAt w R #[a, b] T) (hy : w.cell? ⟨y, 2, none⟩ = some v) : y ≠ R := by
  intro e
  have q2 := h.cell 2
  rw [← e, hy] at q2
  simp at q2

theorem cell_set2 {w : World} {b c o o1 o2 : Nat} {x v1 v2 : Value} (h : w.cell? ⟨b, o, none⟩ = some x) (hn : b ≠ c) : ((w.setCell ⟨c, o1, none⟩ v1).setCell ⟨c, o2, none⟩ v2).cell? ⟨b, o, none⟩ = some x := by
  rw [World.cell?_setCell_other _ _ _ _ (fun e => hn (by injection e with e _; exact e.symm)), World.cell?_setCell_other _ _ _ _ (fun e => hn (by injection e with e _; exact e.symm))]
  exact h

/-- What the extraction answers at the form: the triple, or the zero one. -/
theorem walkIn (a0 : Int) (a1 a2 : Bool) (a3 a4 a5 a6 : Int) (w : World) (f0 : 0 ≤ a0) (f1 : a0 ≤ 2) (s0 : 0 ≤ a3) (s1 : a3 ≤ 10) :
    Calls Try.prog 4 #[.int .u8 a0, .bool a1, .bool a2, .int .u8 a3, .int .i32 a4, .int .i32 a5, .int .i32 a6] w fun e w' => e = .returned (.bool true) ∧ Below w.heap.size w w' := by
  go_enter Try.func4, Try.ntmps4
  go_wp2_with fail
  refine (newPars a3 a1 a2 _ s0 s1).mono ?_
  rintro e w1 ⟨p, rfl, hp, b1⟩
  have HP1 := Lib.hid hp
  clear hp
  go_wp2_with fail
  refine (mkRef 3 _).mono ?_
  rintro e w2 ⟨rfl, b2⟩
  go_wp2_with fail
  refine (mkIdent a4 3 _).mono ?_
  rintro e w3 ⟨t, rfl, t0, t1, b3⟩
  have B3 : Below w.heap.size w w3 := (b1.trans (b2.mono b1.size)).trans (b3.mono (Nat.le_trans b1.size b2.size))
  have HP3 := Lib.hid ((HP1.out.later b2).later b3)
  have T0 := Lib.hid t0
  have T1 := Lib.hid t1
  have lt3 : t < w3.heap.size := cell_lt t0
  clear t0 t1 HP1 b1 b2 b3
  go_wp2_with fail
  refine (mkRef 0 _).mono ?_
  rintro e w4 ⟨rfl, b4⟩
  have r4 : RowAt w4 w3.heap.size #[.iface 97 (.pointer (some ⟨t, 0, none⟩)), .int .i32 a4] 35 := (RowAt.new _ _ _).below b4 (by go_size)
  have b4' : Below w3.heap.size w3 w4 := Below.trans (by go_grown) (b4.mono (by go_size))
  go_wp2_with fail
  refine (mkPriv a5 0 _).mono ?_
  rintro e w5 ⟨q, rfl, q0, q1, b5⟩
  have B5 : Below w3.heap.size w3 w5 := b4'.trans (b5.mono b4'.size)
  have R5 := Lib.hid (r4.below b5 r4.lt)
  have HP5 := Lib.hid (HP3.out.later B5)
  have T05 := Lib.hid (later T0.out B5)
  have T15 := Lib.hid (later T1.out B5)
  have Q1 := Lib.hid q1
  have BB5 := B3.trans (B5.mono B3.size)
  have i0 := R5.out.cellv (j := 0) (v := .iface 97 (.pointer (some ⟨t, 0, none⟩))) rfl
  have i1 := R5.out.cellv (j := 1) (v := .int .i32 a4) rfl
  have lt5 := R5.out.lt
  clear q0 q1 b4 b4' r4 b5 B5 T0 T1 HP3 lt3 B3
  go_wp2_with fail
  refine (mkIndex a6 a4 a5 97 40 _ _ _).mono ?_
  rintro e w6 ⟨x, rfl, x0, x1, x2, x3, b6⟩
  have b6' : Below w5.heap.size w5 w6 := Below.trans (by go_grown) (b6.mono (by go_size))
  have HP6 := Lib.hid (HP5.out.later b6')
  have T06 := Lib.hid (later T05.out b6')
  have T16 := Lib.hid (later T15.out b6')
  have Q6 := Lib.hid (later Q1.out b6')
  have R6 := Lib.hid (R5.out.below b6' lt5)
  have B6 : Below w.heap.size w w6 := BB5.trans (b6'.mono BB5.size)
  have X0 := Lib.hid x0
  have X1 := Lib.hid x1
  have X2 := Lib.hid x2
  have X3 := Lib.hid x3
  have z6 := B6.size
  clear x0 x1 x2 x3 b6 b6' i0 i1 lt5 HP5 T05 T15 Q1 R5 BB5
  have hf : a0 = 0 ∨ a0 = 1 ∨ a0 = 2 := by omega
  have hcase := Lib.hid hf
  clear hf
  rcases hcase.out with rfl | rfl | rfl
  · clear hcase f0 f1
    cases a1
    · go_wp2_with fail
      refine (ext18 p 102 _ .nilIface a6 0 0 none _ rfl (fun W hW => ?_)).mono ?_
      · have hW' : Below w6.heap.size w6 W := Below.trans (by go_grown) (hW.mono (by go_size))
        exact ext_no p x q a6 a3 W s0 s1 (HP6.out.later hW') (later X2.out hW') (later Q6.out hW')
      rintro e w7 ⟨rfl, b7⟩
      have B7 : Below w.heap.size w w7 := Below.trans (by go_grown) (b7.mono (by go_size))
      have z7 := B7.size
      clear b7
      go_wp2_with fail
      go_ret
      exact ⟨rfl, by go_grown⟩
    · go_wp2_with fail
      refine (ext18 p 102 _ (.iface 97 (.pointer (some ⟨t, 0, none⟩))) a6 a4 a5 (some ⟨q, 0, none⟩) _ rfl (fun W hW => ?_)).mono ?_
      · have hW' : Below w6.heap.size w6 W := Below.trans (by go_grown) (hW.mono (by go_size))
        exact ext_yes p x q 97 _ a6 a4 a5 a3 W s0 s1 (HP6.out.later hW') (later X0.out hW') (later X1.out hW') (later X2.out hW') (later X3.out hW') (later Q6.out hW')
      rintro e w7 ⟨rfl, b7⟩
      have b7' : Below w6.heap.size w6 w7 := Below.trans (by go_grown) (b7.mono (by go_size))
      have T07 := Lib.hid (later T06.out b7')
      have T17 := Lib.hid (later T16.out b7')
      have B7 : Below w.heap.size w w7 := B6.trans (b7'.mono B6.size)
      have z7 := B7.size
      have hee := eqlP ⟨q, 0, none⟩
      clear b7 b7'
      go_wp2_with fail
      refine (identAt t a4 _ (later T07.out (by go_grown)) (later T17.out (by go_grown))).mono ?_
      rintro e w8 ⟨rfl, b8⟩
      have B8 : Below w.heap.size w w8 := Below.trans (by go_grown) (b8.mono (by go_size))
      clear b8
      go_wp2_with fail
      go_ret
      exact ⟨rfl, B8⟩
  · clear hcase f0 f1
    have j0 := R6.out.cellv (j := 0) (v := .iface 97 (.pointer (some ⟨t, 0, none⟩))) rfl
    have j1 := R6.out.cellv (j := 1) (v := .int .i32 a4) rfl
    go_wp2_with fail
    have r19 : RowAt (w6.alloc (.cells #[.iface 102 (.pointer (some ⟨x, 0, none⟩)), .int .i32 a6] 35)) w6.heap.size #[.iface 102 (.pointer (some ⟨x, 0, none⟩)), .int .i32 a6] 35 := RowAt.new _ _ _
    have r16 := R6.out.alloc (.cells #[.iface 102 (.pointer (some ⟨x, 0, none⟩)), .int .i32 a6] 35)
    have B' : Below w.heap.size w (w6.alloc (.cells #[.iface 102 (.pointer (some ⟨x, 0, none⟩)), .int .i32 a6] 35)) := by go_grown
    clear j0 j1 R6 X0 X1 X2 X3 HP6 T06 T16 Q6 B6
    generalize hW : w6.alloc (.cells #[.iface 102 (.pointer (some ⟨x, 0, none⟩)), .int .i32 a6] 35) = W at r19 r16 B' ⊢
    clear hW
    have z' := B'.size
    have j0 := r16.cellv (j := 0) (v := .iface 97 (.pointer (some ⟨t, 0, none⟩))) rfl
    have j1 := r16.cellv (j := 1) (v := .int .i32 a4) rfl
    have lt16 := r16.lt
    have R16 := Lib.hid r16
    have R19 := Lib.hid r19
    have k0 := r19.cellv (j := 0) (v := .iface 102 (.pointer (some ⟨x, 0, none⟩))) rfl
    have k1 := r19.cellv (j := 1) (v := .int .i32 a6) rfl
    have g0 := r19.frozen 0
    have g1 := r19.frozen 1
    have lt19 := r19.lt
    clear r16 r19
    go_region_with (first
      | (go_at_call 16; refine (mkStr a5 _).mono ?_; rintro e w7 ⟨y, rfl, b7⟩; have R16b := Lib.hid (R16.out.below (w := W.drew) b7 lt16); have R19b := Lib.hid (R19.out.below (w := W.drew) b7 lt19); have m0 := R16b.out.cellv (j := 0) (v := .iface 97 (.pointer (some ⟨t, 0, none⟩))) rfl; have m1 := R16b.out.cellv (j := 1) (v := .int .i32 a4) rfl; have B7 := Lib.hid (Below.trans B'.drew (b7.mono B'.size)); clear b7)
      | (go_at_call 15; refine (mkIndex a6 a4 a5 97 106 _ _ _).mono ?_; rintro e w8 ⟨y8, rfl, y0, y1, y2, y3, b8⟩; have r19c := R19b.out.below b8 R19b.out.lt; have n0 := r19c.cellv (j := 0) (v := .iface 102 (.pointer (some ⟨x, 0, none⟩))) rfl; have n1 := r19c.cellv (j := 1) (v := .int .i32 a6) rfl; have h0 := r19c.frozen 0; have h1 := r19c.frozen 1; have B8 := B7.out.trans (b8.mono B7.out.size); have Y2 := Lib.hid y2; have ne8 : y8 ≠ w6.heap.size := row2_ne r19c y2; have lt8 := r19c.lt; clear b8 r19c y0 y1 y2 y3))
    all_goals
      go_wp2_with fail
      refine (ext18 p 102 _ .nilIface a6 0 0 none _ rfl (fun W2 hW => ext_str p y8 _ a6 W2 (later (cell_set2 Y2.out ne8) hW))).mono ?_
      rintro e w9 ⟨rfl, b9⟩
      have z8 := B8.size
      have B9 : Below w.heap.size w w9 := Below.trans (by go_grown) (b9.mono (by go_size))
      have z9 := B9.size
      clear b9
      go_wp2_with fail
      go_ret
      exact ⟨rfl, by go_grown⟩
  · clear hcase f0 f1
    have j0 := R6.out.cellv (j := 0) (v := .iface 97 (.pointer (some ⟨t, 0, none⟩))) rfl
    have j1 := R6.out.cellv (j := 1) (v := .int .i32 a4) rfl
    have l3 := R6.out.lt
    go_wp2_with fail
    refine (mkDot a6 a4 a5 97 _ _ _).mono ?_
    rintro e w7 ⟨y, rfl, b7⟩
    have b7' : Below w6.heap.size w6 w7 := Below.trans (by go_grown) (b7.mono (by go_size))
    have r7 : RowAt w7 w6.heap.size #[.iface 102 (.pointer (some ⟨x, 0, none⟩)), .int .i32 a6] 35 := (RowAt.new _ _ _).below b7 (by go_size)
    have e0 := r7.cellv (j := 0) (v := .iface 102 (.pointer (some ⟨x, 0, none⟩))) rfl
    have e1 := r7.cellv (j := 1) (v := .int .i32 a6) rfl
    have g0 := r7.frozen 0
    have g1 := r7.frozen 1
    have B7 : Below w.heap.size w w7 := B6.trans (b7'.mono B6.size)
    have z7 := B7.size
    have l7 := r7.lt
    clear r7 b7 b7' j0 j1
    go_wp2_with fail
    refine (ext18 p 111 _ .nilIface a6 0 0 none _ rfl (fun W hW => ext_dot p _ a6 W)).mono ?_
    rintro e w8 ⟨rfl, b8⟩
    have B8 : Below w.heap.size w w8 := Below.trans (by go_grown) (b8.mono (by go_size))
    have z8 := B8.size
    clear b8
    go_wp2_with fail
    go_ret
    exact ⟨rfl, by go_grown⟩

theorem walk (a0 : Int) (a1 : Bool) (a2 : Bool) (a3 : Int) (a4 : Int) (a5 : Int) (a6 : Int) (w : World) (w0 : (Lit.int .u8 a0).wf = true) (w3 : (Lit.int .u8 a3).wf = true) (w4 : (Lit.int .i32 a4).wf = true) (w5 : (Lit.int .i32 a5).wf = true) (w6 : (Lit.int .i32 a6).wf = true) :
    Calls Try.prog 4 #[.int .u8 a0, .bool a1, .bool a2, .int .u8 a3, .int .i32 a4, .int .i32 a5, .int .i32 a6] w fun e w' => e = .returned (.bool true) ∧ Below w.heap.size w w' := by
  have h0 : 0 ≤ a0 ∧ a0 ≤ 255 := bounds_u8 w0
  have h3 : 0 ≤ a3 ∧ a3 ≤ 255 := bounds_u8 w3
  clear w0 w3 w4 w5 w6
  by_cases hb : a0 ≤ 2 ∧ a3 ≤ 10
  · exact walkIn a0 a1 a2 a3 a4 a5 a6 w h0.1 hb.1 h3.1 hb.2
  · by_cases h : 2 < a0
    · go_enter Try.func4, Try.ntmps4
      go_wp2_with fail
      go_ret
      exact ⟨rfl, Below.refl _ _⟩
    · have h' : 10 < a3 := by omega
      clear hb
      go_enter Try.func4, Try.ntmps4
      go_wp2_with fail
      go_ret
      exact ⟨rfl, Below.refl _ _⟩

end Go.Proofs.Ytpehladamabedaa.fnExtractPrivateIndexTable
