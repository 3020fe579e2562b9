import Derived.Test.YtfbjlgjlbndmkaaKit
import Derived.Test.YtfbjlgjlbndmkaaFcJ
import Derived.Test.YtfbjlgjlbndmkaaFcK
namespace Go.Proofs.Ytfbjlgjlbndmkaa
open Go.ChangeShapes Go.WideShapes Go.ChangeAt Go.RowKit
set_option linter.unusedVariables false
set_option maxRecDepth 100000
set_option maxHeartbeats 2000000

theorem hQ_then {P : Program} {fn : Func} {K : Act → World → Prop} {R : Ending → World → Prop} : ∀ c (a : Act) d v w, Exit.then K (bodyPost P fn R) (.panic c) (a.put d v) w → Exit.then K (bodyPost P fn R) (.panic c) a w := fun c a d v w h => by cases d <;> exact h
theorem reg_conv {P : Program} {id : Nat} {ops : Array Oper} {b : Bool} {Q : Exit → Act → World → Prop} {a : Act} {w : World} (l : List Oper) (h : ops = l.toArray) (hh : (Code.region id l.toArray b).wp P Q a w) : (Code.region id ops b).wp P Q a w := h ▸ hh
set_option maxHeartbeats 8000000 in
theorem eq14 (pa pb : Nat) (e e' : ByteArray) (f f' o o' m m' B B' : Int) (a a' : Option Addr) (n n' : Nat) (mp mp' rp rp' : Option Nat) (Sa Sb : Nat → ByteArray) (w : World)
    (ra : RowAt w pa (A66 e f o m B (.slice a n n) (rxV mp) (rxV rp)) 66) (rb : RowAt w pb (A66 e' f' o' m' B' (.slice a' n' n') (rxV mp') (rxV rp')) 66)
    (hx1 : RxAt w mp) (hx2 : RxAt w mp') (hx3 : RxAt w rp) (hx4 : RxAt w rp') (hn1 : n ≤ 1048576) (hn2 : n' ≤ 1048576) (hl1 : IsStrs w a n n Sa) (hl2 : IsStrs w a' n' n' Sb) :
    Calls Try.prog 14 #[.pointer (some ⟨pa, 0, none⟩), .pointer (some ⟨pb, 0, none⟩)] w fun en w' => en = .returned (.bool (eqS e e' f f' o o' m m' B B' && ((mp.isNone == mp'.isNone) && ((rp.isNone == rp'.isNone) && eqL n n' Sa Sb)))) ∧ Below w.heap.size w w' := by
  have hS : S14 w pa pb e e' f f' o o' m m' B B' a a' n n' mp mp' rp rp' w := ⟨ra, rb, Below.refl _ _⟩
  have HS := Lib.hid hS
  have HX := Lib.hid (And.intro hx1 (And.intro hx2 (And.intro hx3 hx4)))
  have HL := Lib.hid (And.intro hn1 (And.intro hn2 (And.intro hl1 hl2)))
  clear hS ra rb hx1 hx2 hx3 hx4 hn1 hn2 hl1 hl2
  go_enter Try.func14, Try.ntmps14
  go_wp2_with fail
  cases hb : eqS e e' f f' o o' m m' B B' with
  | false =>
    have HB := Lib.hid hb
    clear hb
    refine reg_conv rg14_1 (by kernel_rfl) ?_
    refine r1 (fun c a d v w h => by cases d <;> exact h) w _ pa pb e e' f f' o o' m m' B B' a a' n n' mp mp' rp rp' false HB.out HS.out ?_
    intro W1 hS1
    have H1 := Lib.hid hS1
    clear hS1
    go_wp2_with fail
    go_ret
    exact ⟨ret_bool (show false = _ by rw [HB.out]; rfl), H1.out.2.2⟩
  | true =>
    have HB := Lib.hid hb
    clear hb
    refine reg_conv rg14_1 (by kernel_rfl) ?_
    refine r1 (fun c a d v w h => by cases d <;> exact h) w _ pa pb e e' f f' o o' m m' B B' a a' n n' mp mp' rp rp' true HB.out HS.out ?_
    intro W1 hS1
    have H1 := Lib.hid hS1
    clear hS1
    go_wp2_with fail
    refine reg_conv rg14_3 (by kernel_rfl) ?_
    refine r3 (fun c a d v w h => by cases d <;> exact h) w _ pa pb e e' f f' o o' m m' B B' a a' n n' mp mp' rp rp' H1.out ?_
    intro W2 hS2
    have H2 := Lib.hid hS2
    clear hS2
    go_wp2_with fail
    cases hm : (mp.isNone == mp'.isNone) with
    | false =>
      have HM := Lib.hid hm
      clear hm
      refine reg_conv rg14_5 (by kernel_rfl) ?_
      refine r5a (fun c a d v w h => by cases d <;> exact h) w _ pa pb e e' f f' o o' m m' B B' a a' n n' mp mp' rp rp' HX.out.1 HX.out.2.1 HX.out.2.2.1 HX.out.2.2.2 HM.out H2.out ?_
      intro W3 hS3
      have H3 := Lib.hid hS3
      clear hS3
      go_wp2_with fail
      go_ret
      exact ⟨ret_bool (show false = _ by rw [HB.out, HM.out]; rfl), H3.out.2.2⟩
    | true =>
      have HM := Lib.hid hm
      clear hm
      cases hr : (rp.isNone == rp'.isNone) with
      | false =>
        have HR := Lib.hid hr
        clear hr
        refine reg_conv rg14_5 (by kernel_rfl) ?_
        refine r5b (fun c a d v w h => by cases d <;> exact h) w _ pa pb e e' f f' o o' m m' B B' a a' n n' mp mp' rp rp' HX.out.1 HX.out.2.1 HX.out.2.2.1 HX.out.2.2.2 HM.out HR.out H2.out ?_
        intro W3 hS3
        have H3 := Lib.hid hS3
        clear hS3
        go_wp2_with fail
        go_ret
        exact ⟨ret_bool (show false = _ by rw [HB.out, HM.out, HR.out]; rfl), H3.out.2.2⟩
      | true =>
        have HR := Lib.hid hr
        clear hr
        refine reg_conv rg14_5 (by kernel_rfl) ?_
        refine r5c (fun c a d v w h => by cases d <;> exact h) w _ pa pb e e' f f' o o' m m' B B' a a' n n' mp mp' rp rp' HX.out.1 HX.out.2.1 HX.out.2.2.1 HX.out.2.2.2 HM.out HR.out H2.out ?_
        intro W3 hS3
        have H3 := Lib.hid hS3
        clear hS3
        go_wp2_with fail
        cases hq : eqL n n' Sa Sb with
        | false =>
          have HQ := Lib.hid hq
          clear hq
          refine reg_conv rg14_7 (by kernel_rfl) ?_
          refine r7a (fun c a d v w h => by cases d <;> exact h) w _ pa pb e e' f f' o o' m m' B B' a a' n n' mp mp' rp rp' Sa Sb HL.out.1 HL.out.2.1 HL.out.2.2.1 HL.out.2.2.2 HQ.out H3.out ?_
          intro W4 hS4
          have H4 := Lib.hid hS4
          clear hS4
          go_wp2_with fail
          go_ret
          exact ⟨ret_bool (show false = _ by rw [HB.out, HM.out, HR.out, HQ.out]; rfl), H4.out.2.2⟩
        | true =>
          have HQ := Lib.hid hq
          clear hq
          refine reg_conv rg14_7 (by kernel_rfl) ?_
          refine r7b (fun c a d v w h => by cases d <;> exact h) w _ pa pb e e' f f' o o' m m' B B' a a' n n' mp mp' rp rp' Sa Sb HL.out.1 HL.out.2.1 HL.out.2.2.1 HL.out.2.2.2 HQ.out H3.out ?_
          intro W4 hS4
          have H4 := Lib.hid hS4
          clear hS4
          go_wp2_with fail
          refine reg_conv rg14_9 (by kernel_rfl) ?_
          refine r9 (fun c a d v w h => by cases d <;> exact h) w _ pa pb e e' f f' o o' m m' B B' a a' n n' mp mp' rp rp' H4.out ?_
          intro W5 hS5
          have H5 := Lib.hid hS5
          have c0 := hS5.1.cellv (j := 0) (v := .slice none 0 0) (by rfl)
          clear hS5
          go_wp2_with fail
          refine wp_loop_once ?_
          go_wp2_with fail
          refine reg_conv rg14_24 (by kernel_rfl) ?_
          refine r24 (fun c a d v w h => by cases d <;> exact h) w _ pa pb e e' f f' o o' m m' B B' a a' n n' mp mp' rp rp' H5.out ?_
          intro W6 hS6
          have H6 := Lib.hid hS6
          clear hS6 c0
          go_wp2_with fail
          refine reg_conv rg14_26 (by kernel_rfl) ?_
          refine r26 (fun c a d v w h => by cases d <;> exact h) w _ pa pb e e' f f' o o' m m' B B' a a' n n' mp mp' rp rp' H6.out ?_
          intro W7 hS7
          have H7 := Lib.hid hS7
          clear hS7
          go_wp2_with fail
          go_ret
          exact ⟨ret_bool (show true = _ by rw [HB.out, HM.out, HR.out, HQ.out]; rfl), H7.out.2.2⟩
theorem zzEq8 (e e' : ByteArray) (f f' o o' m m' B B' : Int) (a a' : Option Addr) (n n' : Nat) (mp mp' rp rp' : Option Nat) (Sa Sb : Nat → ByteArray) (w : World)
    (hx1 : RxAt w mp) (hx2 : RxAt w mp') (hx3 : RxAt w rp) (hx4 : RxAt w rp') (hn1 : n ≤ 1048576) (hn2 : n' ≤ 1048576) (hl1 : IsStrs w a n n Sa) (hl2 : IsStrs w a' n' n' Sb) :
    Calls Try.prog 8 #[.agg (A66 e f o m B (.slice a n n) (rxV mp) (rxV rp)), .agg (A66 e' f' o' m' B' (.slice a' n' n') (rxV mp') (rxV rp'))] w fun en w' => en = .returned (.bool (eqS e e' f f' o o' m m' B B' && ((mp.isNone == mp'.isNone) && ((rp.isNone == rp'.isNone) && eqL n n' Sa Sb)))) ∧ Below w.heap.size w w' := by
  go_enter Try.func8, Try.ntmps8
  go_wp2_with fail
  have r1 := (RowAt.new w (A66 e f o m B (.slice a n n) (rxV mp) (rxV rp)) 66).alloc (.cells (A66 e' f' o' m' B' (.slice a' n' n') (rxV mp') (rxV rp')) 66)
  have r2 := RowAt.new (w.alloc (.cells (A66 e f o m B (.slice a n n) (rxV mp) (rxV rp)) 66)) (A66 e' f' o' m' B' (.slice a' n' n') (rxV mp') (rxV rp')) 66
  have b2 : Below w.heap.size w ((w.alloc (.cells (A66 e f o m B (.slice a n n) (rxV mp) (rxV rp)) 66)).alloc (.cells (A66 e' f' o' m' B' (.slice a' n' n') (rxV mp') (rxV rp')) 66)) := ((Below.refl _ _).alloc (Nat.le_refl _) _).alloc (by simp) _
  have hz : (w.alloc (.cells (A66 e f o m B (.slice a n n) (rxV mp) (rxV rp)) 66)).heap.size = w.heap.size + 1 := by simp
  rw [hz] at r2
  have HB := Lib.hid b2
  have h1 := rx_later hx1 b2 (Nat.le_refl _)
  have h2 := rx_later hx2 b2 (Nat.le_refl _)
  have h3 := rx_later hx3 b2 (Nat.le_refl _)
  have h4 := rx_later hx4 b2 (Nat.le_refl _)
  refine (eq14 w.heap.size (w.heap.size + 1) e e' f f' o o' m m' B B' a a' n n' mp mp' rp rp' Sa Sb _ r1 r2 h1 h2 h3 h4 hn1 hn2 (strs_later hl1 b2 (Nat.le_refl _)) (strs_later hl2 b2 (Nat.le_refl _))).mono ?_
  rintro en w' ⟨rfl, hb⟩
  have HB' := Lib.hid hb
  clear hb b2 h1 h2 h3 h4 r1 r2 hz hx1 hx2 hx3 hx4 hl1 hl2
  obtain ⟨R, hR⟩ : ∃ R, (eqS e e' f f' o o' m m' B B' && ((mp.isNone == mp'.isNone) && ((rp.isNone == rp'.isNone) && eqL n n' Sa Sb))) = R := ⟨_, rfl⟩
  rw [hR]
  have HRR := Lib.hid hR
  clear hR
  go_wp2
  go_ret
  exact ⟨ret_bool HRR.out.symm, HB.out.trans (HB'.out.mono (by simp; omega))⟩

end Go.Proofs.Ytfbjlgjlbndmkaa
