import Derived.Test.YtidicogmfpfibaaFmtKit
import Derived.Test.YtidicogmfpfibaaFmtIsK
namespace Go.Proofs.YtidicogmfpfibaaFmt
open Go.ChangeShapes Go.WideShapes Go.ChangeAt Go.RowKit
set_option linter.unusedVariables false
set_option maxRecDepth 100000
set_option maxHeartbeats 2000000

open Go.MuLone Go.Extern.Stop Go.Stop Go.Extern
def Marked (p sc ts : Nat) (fm kd : Int) (B k mu he ms : Nat) (W : World) (e : Ending) (W' : World) : Prop := e = .returned (.tuple #[]) ∧ ∃ v na nl nc g tx, LG B k mu he ms 0 v 1 ([] ++ msgV (.slice na nl nc) (.pointer (some ⟨g, 0, none⟩)) tx) W' ∧ Below B W W' ∧ PS p k mu he ms sc ts fm kd W'
/-- The call that asks whether the mode is strict, at any later world. -/
theorem key11 (p k mu he ms sc ts : Nat) (fm kd : Int) (W W1 : World) (q : Nat) (hP : PS p k mu he ms sc ts fm kd W) (hb : Below W.heap.size W W1) (hq : RowAt W1 q #[.int .i32 0, .int .i32 0] 41) : Calls Tryf.prog 11 #[.pointer (some ⟨p, 0, none⟩)] W1 fun e w' => e = .returned (.bool (kd != 0)) ∧ Below W.heap.size W w' ∧ RowAt w' q #[.int .i32 0, .int .i32 0] 41 :=
  (strict11 p k mu he ms sc ts fm kd W1 (hP.later hb)).mono fun e w' ⟨h1, h2⟩ => ⟨h1, h2 ▸ hb, h2 ▸ hq⟩
theorem lt_p {p k mu he ms sc ts : Nat} {fm kd : Int} {W : World} (h : PS p k mu he ms sc ts fm kd W) : p < W.heap.size := by
  obtain ⟨cs, b, r, _⟩ := h
  exact r.lt
theorem ne_p {p k mu he ms sc ts : Nat} {fm kd : Int} {W : World} {q : Nat} {cs' : Array Value} (h : PS p k mu he ms sc ts fm kd W) (r' : RowAt W q cs' 41) : q ≠ p := by
  obtain ⟨cs, b, r, _⟩ := h
  exact r'.diff r (by decide)
theorem LG.fpP {B k mu he ms : Nat} {kd' : Int} {v : Value} {n : Nat} {xs : List Value} {W W' : World} {p sc ts : Nat} {fm kd : Int} (H : LG B k mu he ms kd' v n xs W) (h : PS p k mu he ms sc ts fm kd W) (hF : Fp p W W') (hz : W.heap.size ≤ W'.heap.size) : LG B k mu he ms kd' v n xs W' := by
  obtain ⟨cs, b, r, _⟩ := h
  exact H.fp r hF hz
set_option maxHeartbeats 4000000 in
theorem mark10_0 (F : Interp) (B p k mu he ms sc ts : Nat) (fm kd : Int) (hB : B ≤ p) (hk : kd = 1 ∨ kd = 2 ∨ kd = 3 ∨ kd = 4 ∨ kd = 5) (dt : ByteArray) (W : World) (hF : F.answers W.tape) (H : LG B k mu he ms 0 (.slice none 0 0) 0 [] W) (hP : PS p k mu he ms sc ts fm kd W) :
    Calls Tryf.prog 10 #[.pointer (some ⟨p, 0, none⟩), .int .u8 0, .agg #[.int .i32 0, .int .i32 0], .string dt] W (Marked p sc ts fm kd B k mu he ms W) := by
  have hkd : (kd != 0) = true := by rcases hk with rfl | rfl | rfl | rfl | rfl <;> rfl
  have HH := Lib.hid (And.intro H (And.intro hP hF))
  have hpl := lt_p hP
  have hz : B ≤ W.heap.size := H.hB
  clear H hP hF
  go_enter Tryf.func10, Tryf.ntmps10
  go_wp2_with fail
  refine (key11 p k mu he ms sc ts fm kd W _ W.heap.size HH.out.2.1 ((Below.refl _ _).alloc (Nat.le_refl _) _) (RowAt.new W _ 41)).mono ?_
  rintro e1 w1 ⟨rfl, hb1, hq1⟩
  have hp1 := HH.out.2.1.later hb1
  have c104 := ps_sc hp1
  have hp1l := lt_p hp1
  have H1 := Lib.hid (And.intro hb1 (And.intro hq1 hp1))
  clear hb1 hq1 hp1
  go_wp2_with fail
  refine (why15 F p k mu he ms sc ts fm kd B hB hk w1 (H1.out.1.tape ▸ HH.out.2.2) H1.out.2.2).mono ?_
  rintro e2 w2 ⟨wh, na, nl, nc, rfl, hp2, hf2, hb2⟩
  have l2 := (HH.out.1.later H1.out.1).fpP H1.out.2.2 hf2 hb2.size
  have q2 := hf2 _ _ _ (ne_p H1.out.2.2 H1.out.2.1) H1.out.2.1
  have bb2 := (H1.out.1.mono hz).trans hb2
  have H2 := Lib.hid (And.intro hp2 (And.intro q2 (And.intro l2 bb2)))
  clear hp2 q2 l2 bb2 hf2 hb2 c104 hp1l hpl
  go_upto_region 28 with (fail)
  refine reg_conv rg10_28 (by kernel_rfl) ?_
  refine rgn28 F (fun c a d v w h => by cases d <;> exact h) p k mu he ms sc ts fm kd B W.heap.size (.slice none 0 0) 0 [] _ wh na nl nc w2 hB (H2.out.2.2.2.tape ▸ HH.out.2.2) H2.out.1 H2.out.2.1 H2.out.2.2.1 (by omega) (fun m tx2 W3 hA => ?_)
  obtain ⟨_, v3, g3, l3, b3, p3, _⟩ := hA
  have H3 := Lib.hid (And.intro l3 (And.intro (H2.out.2.2.2.trans b3) p3))
  clear l3 b3 p3
  go_wp2_with fail
  go_end0
  exact ⟨rfl, v3, na, nl, nc, g3, tx2, H3.out⟩
set_option maxHeartbeats 4000000 in
theorem mark10_1 (F : Interp) (B p k mu he ms sc ts : Nat) (fm kd : Int) (hB : B ≤ p) (hk : kd = 1 ∨ kd = 2 ∨ kd = 3 ∨ kd = 4 ∨ kd = 5) (dt : ByteArray) (W : World) (hF : F.answers W.tape) (H : LG B k mu he ms 0 (.slice none 0 0) 0 [] W) (hP : PS p k mu he ms sc ts fm kd W) :
    Calls Tryf.prog 10 #[.pointer (some ⟨p, 0, none⟩), .int .u8 1, .agg #[.int .i32 0, .int .i32 0], .string dt] W (Marked p sc ts fm kd B k mu he ms W) := by
  have hkd : (kd != 0) = true := by rcases hk with rfl | rfl | rfl | rfl | rfl <;> rfl
  have HH := Lib.hid (And.intro H (And.intro hP hF))
  have hpl := lt_p hP
  have hz : B ≤ W.heap.size := H.hB
  clear H hP hF
  go_enter Tryf.func10, Tryf.ntmps10
  go_wp2_with fail
  refine (key11 p k mu he ms sc ts fm kd W _ W.heap.size HH.out.2.1 ((Below.refl _ _).alloc (Nat.le_refl _) _) (RowAt.new W _ 41)).mono ?_
  rintro e1 w1 ⟨rfl, hb1, hq1⟩
  have hp1 := HH.out.2.1.later hb1
  have c104 := ps_sc hp1
  have hp1l := lt_p hp1
  have H1 := Lib.hid (And.intro hb1 (And.intro hq1 hp1))
  clear hb1 hq1 hp1
  go_wp2_with fail
  refine (why15 F p k mu he ms sc ts fm kd B hB hk w1 (H1.out.1.tape ▸ HH.out.2.2) H1.out.2.2).mono ?_
  rintro e2 w2 ⟨wh, na, nl, nc, rfl, hp2, hf2, hb2⟩
  have l2 := (HH.out.1.later H1.out.1).fpP H1.out.2.2 hf2 hb2.size
  have q2 := hf2 _ _ _ (ne_p H1.out.2.2 H1.out.2.1) H1.out.2.1
  have bb2 := (H1.out.1.mono hz).trans hb2
  have H2 := Lib.hid (And.intro hp2 (And.intro q2 (And.intro l2 bb2)))
  clear hp2 q2 l2 bb2 hf2 hb2 c104 hp1l hpl
  go_upto_region 28 with (fail)
  refine reg_conv rg10_28 (by kernel_rfl) ?_
  refine rgn28 F (fun c a d v w h => by cases d <;> exact h) p k mu he ms sc ts fm kd B W.heap.size (.slice none 0 0) 0 [] _ wh na nl nc w2 hB (H2.out.2.2.2.tape ▸ HH.out.2.2) H2.out.1 H2.out.2.1 H2.out.2.2.1 (by omega) (fun m tx2 W3 hA => ?_)
  obtain ⟨_, v3, g3, l3, b3, p3, _⟩ := hA
  have H3 := Lib.hid (And.intro l3 (And.intro (H2.out.2.2.2.trans b3) p3))
  clear l3 b3 p3
  go_wp2_with fail
  go_end0
  exact ⟨rfl, v3, na, nl, nc, g3, tx2, H3.out⟩
set_option maxHeartbeats 4000000 in
theorem mark10_2 (F : Interp) (B p k mu he ms sc ts : Nat) (fm kd : Int) (hB : B ≤ p) (hk : kd = 1 ∨ kd = 2 ∨ kd = 3 ∨ kd = 4 ∨ kd = 5) (dt : ByteArray) (W : World) (hF : F.answers W.tape) (H : LG B k mu he ms 0 (.slice none 0 0) 0 [] W) (hP : PS p k mu he ms sc ts fm kd W) :
    Calls Tryf.prog 10 #[.pointer (some ⟨p, 0, none⟩), .int .u8 2, .agg #[.int .i32 0, .int .i32 0], .string dt] W (Marked p sc ts fm kd B k mu he ms W) := by
  have hkd : (kd != 0) = true := by rcases hk with rfl | rfl | rfl | rfl | rfl <;> rfl
  have HH := Lib.hid (And.intro H (And.intro hP hF))
  have hpl := lt_p hP
  have hz : B ≤ W.heap.size := H.hB
  clear H hP hF
  go_enter Tryf.func10, Tryf.ntmps10
  go_wp2_with fail
  refine (key11 p k mu he ms sc ts fm kd W _ W.heap.size HH.out.2.1 ((Below.refl _ _).alloc (Nat.le_refl _) _) (RowAt.new W _ 41)).mono ?_
  rintro e1 w1 ⟨rfl, hb1, hq1⟩
  have hp1 := HH.out.2.1.later hb1
  have c104 := ps_sc hp1
  have hp1l := lt_p hp1
  have H1 := Lib.hid (And.intro hb1 (And.intro hq1 hp1))
  clear hb1 hq1 hp1
  go_wp2_with fail
  refine (why15 F p k mu he ms sc ts fm kd B hB hk w1 (H1.out.1.tape ▸ HH.out.2.2) H1.out.2.2).mono ?_
  rintro e2 w2 ⟨wh, na, nl, nc, rfl, hp2, hf2, hb2⟩
  have l2 := (HH.out.1.later H1.out.1).fpP H1.out.2.2 hf2 hb2.size
  have q2 := hf2 _ _ _ (ne_p H1.out.2.2 H1.out.2.1) H1.out.2.1
  have bb2 := (H1.out.1.mono hz).trans hb2
  have H2 := Lib.hid (And.intro hp2 (And.intro q2 (And.intro l2 bb2)))
  clear hp2 q2 l2 bb2 hf2 hb2 c104 hp1l hpl
  go_upto_region 28 with (fail)
  refine reg_conv rg10_28 (by kernel_rfl) ?_
  refine rgn28 F (fun c a d v w h => by cases d <;> exact h) p k mu he ms sc ts fm kd B W.heap.size (.slice none 0 0) 0 [] _ wh na nl nc w2 hB (H2.out.2.2.2.tape ▸ HH.out.2.2) H2.out.1 H2.out.2.1 H2.out.2.2.1 (by omega) (fun m tx2 W3 hA => ?_)
  obtain ⟨_, v3, g3, l3, b3, p3, _⟩ := hA
  have H3 := Lib.hid (And.intro l3 (And.intro (H2.out.2.2.2.trans b3) p3))
  clear l3 b3 p3
  go_wp2_with fail
  go_end0
  exact ⟨rfl, v3, na, nl, nc, g3, tx2, H3.out⟩
set_option maxHeartbeats 4000000 in
theorem mark10_3 (F : Interp) (B p k mu he ms sc ts : Nat) (fm kd : Int) (hB : B ≤ p) (hk : kd = 1 ∨ kd = 2 ∨ kd = 3 ∨ kd = 4 ∨ kd = 5) (dt : ByteArray) (W : World) (hF : F.answers W.tape) (H : LG B k mu he ms 0 (.slice none 0 0) 0 [] W) (hP : PS p k mu he ms sc ts fm kd W) :
    Calls Tryf.prog 10 #[.pointer (some ⟨p, 0, none⟩), .int .u8 3, .agg #[.int .i32 0, .int .i32 0], .string dt] W (Marked p sc ts fm kd B k mu he ms W) := by
  have hkd : (kd != 0) = true := by rcases hk with rfl | rfl | rfl | rfl | rfl <;> rfl
  have hF' := answers_open hF
  have HH := Lib.hid (And.intro H (And.intro hP hF))
  have hpl := lt_p hP
  have hz : B ≤ W.heap.size := H.hB
  clear H hP hF
  go_enter Tryf.func10, Tryf.ntmps10
  go_wp2_with fail
  refine (key11 p k mu he ms sc ts fm kd W _ W.heap.size HH.out.2.1 (below_drewN (((Below.refl _ _).alloc (Nat.le_refl _) _).alloc (by simp) _) 1) (((RowAt.new W _ 41).alloc _).drewN 1)).mono ?_
  rintro e1 w1 ⟨rfl, hb1, hq1⟩
  have hp1 := HH.out.2.1.later hb1
  have c104 := ps_sc hp1
  have hp1l := lt_p hp1
  have H1 := Lib.hid (And.intro hb1 (And.intro hq1 hp1))
  clear hb1 hq1 hp1
  go_wp2_with fail
  refine (why15 F p k mu he ms sc ts fm kd B hB hk w1 (H1.out.1.tape ▸ HH.out.2.2) H1.out.2.2).mono ?_
  rintro e2 w2 ⟨wh, na, nl, nc, rfl, hp2, hf2, hb2⟩
  have l2 := (HH.out.1.later H1.out.1).fpP H1.out.2.2 hf2 hb2.size
  have q2 := hf2 _ _ _ (ne_p H1.out.2.2 H1.out.2.1) H1.out.2.1
  have bb2 := (H1.out.1.mono hz).trans hb2
  have H2 := Lib.hid (And.intro hp2 (And.intro q2 (And.intro l2 bb2)))
  clear hp2 q2 l2 bb2 hf2 hb2 c104 hp1l hpl
  go_upto_region 28 with (fail)
  refine reg_conv rg10_28 (by kernel_rfl) ?_
  refine rgn28 F (fun c a d v w h => by cases d <;> exact h) p k mu he ms sc ts fm kd B W.heap.size (.slice none 0 0) 0 [] _ wh na nl nc w2 hB (H2.out.2.2.2.tape ▸ HH.out.2.2) H2.out.1 H2.out.2.1 H2.out.2.2.1 (by omega) (fun m tx2 W3 hA => ?_)
  obtain ⟨_, v3, g3, l3, b3, p3, _⟩ := hA
  have H3 := Lib.hid (And.intro l3 (And.intro (H2.out.2.2.2.trans b3) p3))
  clear l3 b3 p3
  go_wp2_with fail
  go_end0
  exact ⟨rfl, v3, na, nl, nc, g3, tx2, H3.out⟩
set_option maxHeartbeats 4000000 in
theorem mark10_4 (F : Interp) (B p k mu he ms sc ts : Nat) (fm kd : Int) (hB : B ≤ p) (hk : kd = 1 ∨ kd = 2 ∨ kd = 3 ∨ kd = 4 ∨ kd = 5) (dt : ByteArray) (W : World) (hF : F.answers W.tape) (H : LG B k mu he ms 0 (.slice none 0 0) 0 [] W) (hP : PS p k mu he ms sc ts fm kd W) :
    Calls Tryf.prog 10 #[.pointer (some ⟨p, 0, none⟩), .int .u8 4, .agg #[.int .i32 0, .int .i32 0], .string dt] W (Marked p sc ts fm kd B k mu he ms W) := by
  have hkd : (kd != 0) = true := by rcases hk with rfl | rfl | rfl | rfl | rfl <;> rfl
  have hF' := answers_open hF
  have HH := Lib.hid (And.intro H (And.intro hP hF))
  have hpl := lt_p hP
  have hz : B ≤ W.heap.size := H.hB
  clear H hP hF
  go_enter Tryf.func10, Tryf.ntmps10
  go_wp2_with fail
  refine (key11 p k mu he ms sc ts fm kd W _ W.heap.size HH.out.2.1 (below_drewN (((Below.refl _ _).alloc (Nat.le_refl _) _).alloc (by simp) _) 1) (((RowAt.new W _ 41).alloc _).drewN 1)).mono ?_
  rintro e1 w1 ⟨rfl, hb1, hq1⟩
  have hp1 := HH.out.2.1.later hb1
  have c104 := ps_sc hp1
  have hp1l := lt_p hp1
  have H1 := Lib.hid (And.intro hb1 (And.intro hq1 hp1))
  clear hb1 hq1 hp1
  go_wp2_with fail
  refine (why15 F p k mu he ms sc ts fm kd B hB hk w1 (H1.out.1.tape ▸ HH.out.2.2) H1.out.2.2).mono ?_
  rintro e2 w2 ⟨wh, na, nl, nc, rfl, hp2, hf2, hb2⟩
  have l2 := (HH.out.1.later H1.out.1).fpP H1.out.2.2 hf2 hb2.size
  have q2 := hf2 _ _ _ (ne_p H1.out.2.2 H1.out.2.1) H1.out.2.1
  have bb2 := (H1.out.1.mono hz).trans hb2
  have H2 := Lib.hid (And.intro hp2 (And.intro q2 (And.intro l2 bb2)))
  clear hp2 q2 l2 bb2 hf2 hb2 c104 hp1l hpl
  go_upto_region 28 with (fail)
  refine reg_conv rg10_28 (by kernel_rfl) ?_
  refine rgn28 F (fun c a d v w h => by cases d <;> exact h) p k mu he ms sc ts fm kd B W.heap.size (.slice none 0 0) 0 [] _ wh na nl nc w2 hB (H2.out.2.2.2.tape ▸ HH.out.2.2) H2.out.1 H2.out.2.1 H2.out.2.2.1 (by omega) (fun m tx2 W3 hA => ?_)
  obtain ⟨_, v3, g3, l3, b3, p3, _⟩ := hA
  have H3 := Lib.hid (And.intro l3 (And.intro (H2.out.2.2.2.trans b3) p3))
  clear l3 b3 p3
  go_wp2_with fail
  go_end0
  exact ⟨rfl, v3, na, nl, nc, g3, tx2, H3.out⟩
set_option maxHeartbeats 4000000 in
theorem mark10_5 (F : Interp) (B p k mu he ms sc ts : Nat) (fm kd : Int) (hB : B ≤ p) (hk : kd = 1 ∨ kd = 2 ∨ kd = 3 ∨ kd = 4 ∨ kd = 5) (dt : ByteArray) (W : World) (hF : F.answers W.tape) (H : LG B k mu he ms 0 (.slice none 0 0) 0 [] W) (hP : PS p k mu he ms sc ts fm kd W) :
    Calls Tryf.prog 10 #[.pointer (some ⟨p, 0, none⟩), .int .u8 5, .agg #[.int .i32 0, .int .i32 0], .string dt] W (Marked p sc ts fm kd B k mu he ms W) := by
  have hkd : (kd != 0) = true := by rcases hk with rfl | rfl | rfl | rfl | rfl <;> rfl
  have HH := Lib.hid (And.intro H (And.intro hP hF))
  have hpl := lt_p hP
  have hz : B ≤ W.heap.size := H.hB
  clear H hP hF
  go_enter Tryf.func10, Tryf.ntmps10
  go_wp2_with fail
  refine (key11 p k mu he ms sc ts fm kd W _ W.heap.size HH.out.2.1 ((Below.refl _ _).alloc (Nat.le_refl _) _) (RowAt.new W _ 41)).mono ?_
  rintro e1 w1 ⟨rfl, hb1, hq1⟩
  have hp1 := HH.out.2.1.later hb1
  have c104 := ps_sc hp1
  have hp1l := lt_p hp1
  have H1 := Lib.hid (And.intro hb1 (And.intro hq1 hp1))
  clear hb1 hq1 hp1
  go_wp2_with fail
  refine (why15 F p k mu he ms sc ts fm kd B hB hk w1 (H1.out.1.tape ▸ HH.out.2.2) H1.out.2.2).mono ?_
  rintro e2 w2 ⟨wh, na, nl, nc, rfl, hp2, hf2, hb2⟩
  have l2 := (HH.out.1.later H1.out.1).fpP H1.out.2.2 hf2 hb2.size
  have q2 := hf2 _ _ _ (ne_p H1.out.2.2 H1.out.2.1) H1.out.2.1
  have bb2 := (H1.out.1.mono hz).trans hb2
  have H2 := Lib.hid (And.intro hp2 (And.intro q2 (And.intro l2 bb2)))
  clear hp2 q2 l2 bb2 hf2 hb2 c104 hp1l hpl
  go_upto_region 28 with (fail)
  refine reg_conv rg10_28 (by kernel_rfl) ?_
  refine rgn28 F (fun c a d v w h => by cases d <;> exact h) p k mu he ms sc ts fm kd B W.heap.size (.slice none 0 0) 0 [] _ wh na nl nc w2 hB (H2.out.2.2.2.tape ▸ HH.out.2.2) H2.out.1 H2.out.2.1 H2.out.2.2.1 (by omega) (fun m tx2 W3 hA => ?_)
  obtain ⟨_, v3, g3, l3, b3, p3, _⟩ := hA
  have H3 := Lib.hid (And.intro l3 (And.intro (H2.out.2.2.2.trans b3) p3))
  clear l3 b3 p3
  go_wp2_with fail
  go_end0
  exact ⟨rfl, v3, na, nl, nc, g3, tx2, H3.out⟩
set_option maxHeartbeats 4000000 in
theorem mark10_6 (F : Interp) (B p k mu he ms sc ts : Nat) (fm kd : Int) (hB : B ≤ p) (hk : kd = 1 ∨ kd = 2 ∨ kd = 3 ∨ kd = 4 ∨ kd = 5) (dt : ByteArray) (W : World) (hF : F.answers W.tape) (H : LG B k mu he ms 0 (.slice none 0 0) 0 [] W) (hP : PS p k mu he ms sc ts fm kd W) :
    Calls Tryf.prog 10 #[.pointer (some ⟨p, 0, none⟩), .int .u8 6, .agg #[.int .i32 0, .int .i32 0], .string dt] W (Marked p sc ts fm kd B k mu he ms W) := by
  have hkd : (kd != 0) = true := by rcases hk with rfl | rfl | rfl | rfl | rfl <;> rfl
  have HH := Lib.hid (And.intro H (And.intro hP hF))
  have hpl := lt_p hP
  have hz : B ≤ W.heap.size := H.hB
  clear H hP hF
  go_enter Tryf.func10, Tryf.ntmps10
  go_wp2_with fail
  refine (key11 p k mu he ms sc ts fm kd W _ W.heap.size HH.out.2.1 ((Below.refl _ _).alloc (Nat.le_refl _) _) (RowAt.new W _ 41)).mono ?_
  rintro e1 w1 ⟨rfl, hb1, hq1⟩
  have hp1 := HH.out.2.1.later hb1
  have c104 := ps_sc hp1
  have hp1l := lt_p hp1
  have H1 := Lib.hid (And.intro hb1 (And.intro hq1 hp1))
  clear hb1 hq1 hp1
  go_wp2_with fail
  refine (why15 F p k mu he ms sc ts fm kd B hB hk w1 (H1.out.1.tape ▸ HH.out.2.2) H1.out.2.2).mono ?_
  rintro e2 w2 ⟨wh, na, nl, nc, rfl, hp2, hf2, hb2⟩
  have l2 := (HH.out.1.later H1.out.1).fpP H1.out.2.2 hf2 hb2.size
  have q2 := hf2 _ _ _ (ne_p H1.out.2.2 H1.out.2.1) H1.out.2.1
  have bb2 := (H1.out.1.mono hz).trans hb2
  have H2 := Lib.hid (And.intro hp2 (And.intro q2 (And.intro l2 bb2)))
  clear hp2 q2 l2 bb2 hf2 hb2 c104 hp1l hpl
  go_upto_region 28 with (fail)
  refine reg_conv rg10_28 (by kernel_rfl) ?_
  refine rgn28 F (fun c a d v w h => by cases d <;> exact h) p k mu he ms sc ts fm kd B W.heap.size (.slice none 0 0) 0 [] _ wh na nl nc w2 hB (H2.out.2.2.2.tape ▸ HH.out.2.2) H2.out.1 H2.out.2.1 H2.out.2.2.1 (by omega) (fun m tx2 W3 hA => ?_)
  obtain ⟨_, v3, g3, l3, b3, p3, _⟩ := hA
  have H3 := Lib.hid (And.intro l3 (And.intro (H2.out.2.2.2.trans b3) p3))
  clear l3 b3 p3
  go_wp2_with fail
  go_end0
  exact ⟨rfl, v3, na, nl, nc, g3, tx2, H3.out⟩
set_option maxHeartbeats 4000000 in
theorem mark10_7 (F : Interp) (B p k mu he ms sc ts : Nat) (fm kd : Int) (hB : B ≤ p) (hk : kd = 1 ∨ kd = 2 ∨ kd = 3 ∨ kd = 4 ∨ kd = 5) (dt : ByteArray) (W : World) (hF : F.answers W.tape) (H : LG B k mu he ms 0 (.slice none 0 0) 0 [] W) (hP : PS p k mu he ms sc ts fm kd W) :
    Calls Tryf.prog 10 #[.pointer (some ⟨p, 0, none⟩), .int .u8 7, .agg #[.int .i32 0, .int .i32 0], .string dt] W (Marked p sc ts fm kd B k mu he ms W) := by
  have hkd : (kd != 0) = true := by rcases hk with rfl | rfl | rfl | rfl | rfl <;> rfl
  have HH := Lib.hid (And.intro H (And.intro hP hF))
  have hpl := lt_p hP
  have hz : B ≤ W.heap.size := H.hB
  clear H hP hF
  go_enter Tryf.func10, Tryf.ntmps10
  go_wp2_with fail
  refine (key11 p k mu he ms sc ts fm kd W _ W.heap.size HH.out.2.1 ((Below.refl _ _).alloc (Nat.le_refl _) _) (RowAt.new W _ 41)).mono ?_
  rintro e1 w1 ⟨rfl, hb1, hq1⟩
  have hp1 := HH.out.2.1.later hb1
  have c104 := ps_sc hp1
  have hp1l := lt_p hp1
  have H1 := Lib.hid (And.intro hb1 (And.intro hq1 hp1))
  clear hb1 hq1 hp1
  go_wp2_with fail
  refine (why15 F p k mu he ms sc ts fm kd B hB hk w1 (H1.out.1.tape ▸ HH.out.2.2) H1.out.2.2).mono ?_
  rintro e2 w2 ⟨wh, na, nl, nc, rfl, hp2, hf2, hb2⟩
  have l2 := (HH.out.1.later H1.out.1).fpP H1.out.2.2 hf2 hb2.size
  have q2 := hf2 _ _ _ (ne_p H1.out.2.2 H1.out.2.1) H1.out.2.1
  have bb2 := (H1.out.1.mono hz).trans hb2
  have H2 := Lib.hid (And.intro hp2 (And.intro q2 (And.intro l2 bb2)))
  clear hp2 q2 l2 bb2 hf2 hb2 c104 hp1l hpl
  go_upto_region 28 with (fail)
  refine reg_conv rg10_28 (by kernel_rfl) ?_
  refine rgn28 F (fun c a d v w h => by cases d <;> exact h) p k mu he ms sc ts fm kd B W.heap.size (.slice none 0 0) 0 [] _ wh na nl nc w2 hB (H2.out.2.2.2.tape ▸ HH.out.2.2) H2.out.1 H2.out.2.1 H2.out.2.2.1 (by omega) (fun m tx2 W3 hA => ?_)
  obtain ⟨_, v3, g3, l3, b3, p3, _⟩ := hA
  have H3 := Lib.hid (And.intro l3 (And.intro (H2.out.2.2.2.trans b3) p3))
  clear l3 b3 p3
  go_wp2_with fail
  go_end0
  exact ⟨rfl, v3, na, nl, nc, g3, tx2, H3.out⟩
set_option maxHeartbeats 4000000 in
theorem mark10_8 (F : Interp) (B p k mu he ms sc ts : Nat) (fm kd : Int) (hB : B ≤ p) (hk : kd = 1 ∨ kd = 2 ∨ kd = 3 ∨ kd = 4 ∨ kd = 5) (dt : ByteArray) (W : World) (hF : F.answers W.tape) (H : LG B k mu he ms 0 (.slice none 0 0) 0 [] W) (hP : PS p k mu he ms sc ts fm kd W) :
    Calls Tryf.prog 10 #[.pointer (some ⟨p, 0, none⟩), .int .u8 8, .agg #[.int .i32 0, .int .i32 0], .string dt] W (Marked p sc ts fm kd B k mu he ms W) := by
  have hkd : (kd != 0) = true := by rcases hk with rfl | rfl | rfl | rfl | rfl <;> rfl
  have HH := Lib.hid (And.intro H (And.intro hP hF))
  have hpl := lt_p hP
  have hz : B ≤ W.heap.size := H.hB
  clear H hP hF
  go_enter Tryf.func10, Tryf.ntmps10
  go_wp2_with fail
  refine (key11 p k mu he ms sc ts fm kd W _ W.heap.size HH.out.2.1 ((Below.refl _ _).alloc (Nat.le_refl _) _) (RowAt.new W _ 41)).mono ?_
  rintro e1 w1 ⟨rfl, hb1, hq1⟩
  have hp1 := HH.out.2.1.later hb1
  have c104 := ps_sc hp1
  have hp1l := lt_p hp1
  have H1 := Lib.hid (And.intro hb1 (And.intro hq1 hp1))
  clear hb1 hq1 hp1
  go_wp2_with fail
  refine (why15 F p k mu he ms sc ts fm kd B hB hk w1 (H1.out.1.tape ▸ HH.out.2.2) H1.out.2.2).mono ?_
  rintro e2 w2 ⟨wh, na, nl, nc, rfl, hp2, hf2, hb2⟩
  have l2 := (HH.out.1.later H1.out.1).fpP H1.out.2.2 hf2 hb2.size
  have q2 := hf2 _ _ _ (ne_p H1.out.2.2 H1.out.2.1) H1.out.2.1
  have bb2 := (H1.out.1.mono hz).trans hb2
  have H2 := Lib.hid (And.intro hp2 (And.intro q2 (And.intro l2 bb2)))
  clear hp2 q2 l2 bb2 hf2 hb2 c104 hp1l hpl
  go_upto_region 28 with (fail)
  refine reg_conv rg10_28 (by kernel_rfl) ?_
  refine rgn28 F (fun c a d v w h => by cases d <;> exact h) p k mu he ms sc ts fm kd B W.heap.size (.slice none 0 0) 0 [] _ wh na nl nc w2 hB (H2.out.2.2.2.tape ▸ HH.out.2.2) H2.out.1 H2.out.2.1 H2.out.2.2.1 (by omega) (fun m tx2 W3 hA => ?_)
  obtain ⟨_, v3, g3, l3, b3, p3, _⟩ := hA
  have H3 := Lib.hid (And.intro l3 (And.intro (H2.out.2.2.2.trans b3) p3))
  clear l3 b3 p3
  go_wp2_with fail
  go_end0
  exact ⟨rfl, v3, na, nl, nc, g3, tx2, H3.out⟩
set_option maxHeartbeats 4000000 in
theorem mark10_9 (F : Interp) (B p k mu he ms sc ts : Nat) (fm kd : Int) (hB : B ≤ p) (hk : kd = 1 ∨ kd = 2 ∨ kd = 3 ∨ kd = 4 ∨ kd = 5) (dt : ByteArray) (W : World) (hF : F.answers W.tape) (H : LG B k mu he ms 0 (.slice none 0 0) 0 [] W) (hP : PS p k mu he ms sc ts fm kd W) :
    Calls Tryf.prog 10 #[.pointer (some ⟨p, 0, none⟩), .int .u8 9, .agg #[.int .i32 0, .int .i32 0], .string dt] W (Marked p sc ts fm kd B k mu he ms W) := by
  have hkd : (kd != 0) = true := by rcases hk with rfl | rfl | rfl | rfl | rfl <;> rfl
  have HH := Lib.hid (And.intro H (And.intro hP hF))
  have hpl := lt_p hP
  have hz : B ≤ W.heap.size := H.hB
  clear H hP hF
  go_enter Tryf.func10, Tryf.ntmps10
  go_wp2_with fail
  refine (key11 p k mu he ms sc ts fm kd W _ W.heap.size HH.out.2.1 ((Below.refl _ _).alloc (Nat.le_refl _) _) (RowAt.new W _ 41)).mono ?_
  rintro e1 w1 ⟨rfl, hb1, hq1⟩
  have hp1 := HH.out.2.1.later hb1
  have c104 := ps_sc hp1
  have hp1l := lt_p hp1
  have H1 := Lib.hid (And.intro hb1 (And.intro hq1 hp1))
  clear hb1 hq1 hp1
  go_wp2_with fail
  refine (why15 F p k mu he ms sc ts fm kd B hB hk w1 (H1.out.1.tape ▸ HH.out.2.2) H1.out.2.2).mono ?_
  rintro e2 w2 ⟨wh, na, nl, nc, rfl, hp2, hf2, hb2⟩
  have l2 := (HH.out.1.later H1.out.1).fpP H1.out.2.2 hf2 hb2.size
  have q2 := hf2 _ _ _ (ne_p H1.out.2.2 H1.out.2.1) H1.out.2.1
  have bb2 := (H1.out.1.mono hz).trans hb2
  have H2 := Lib.hid (And.intro hp2 (And.intro q2 (And.intro l2 bb2)))
  clear hp2 q2 l2 bb2 hf2 hb2 c104 hp1l hpl
  go_upto_region 28 with (fail)
  refine reg_conv rg10_28 (by kernel_rfl) ?_
  refine rgn28 F (fun c a d v w h => by cases d <;> exact h) p k mu he ms sc ts fm kd B W.heap.size (.slice none 0 0) 0 [] _ wh na nl nc w2 hB (H2.out.2.2.2.tape ▸ HH.out.2.2) H2.out.1 H2.out.2.1 H2.out.2.2.1 (by omega) (fun m tx2 W3 hA => ?_)
  obtain ⟨_, v3, g3, l3, b3, p3, _⟩ := hA
  have H3 := Lib.hid (And.intro l3 (And.intro (H2.out.2.2.2.trans b3) p3))
  clear l3 b3 p3
  go_wp2_with fail
  go_end0
  exact ⟨rfl, v3, na, nl, nc, g3, tx2, H3.out⟩
set_option maxHeartbeats 4000000 in
theorem mark10_d (F : Interp) (B p k mu he ms sc ts : Nat) (fm kd : Int) (hB : B ≤ p) (hk : kd = 1 ∨ kd = 2 ∨ kd = 3 ∨ kd = 4 ∨ kd = 5) (ft : Int) (hft : ∀ i : Fin 10, ft ≠ (i.val : Int)) (dt : ByteArray) (W : World) (hF : F.answers W.tape) (H : LG B k mu he ms 0 (.slice none 0 0) 0 [] W) (hP : PS p k mu he ms sc ts fm kd W) :
    Calls Tryf.prog 10 #[.pointer (some ⟨p, 0, none⟩), .int .u8 ft, .agg #[.int .i32 0, .int .i32 0], .string dt] W (Marked p sc ts fm kd B k mu he ms W) := by
  have hkd : (kd != 0) = true := by rcases hk with rfl | rfl | rfl | rfl | rfl <;> rfl
  have f0 : (ft == 0) = false := beq_false_of_ne (hft 0)
  have g0 : ¬ ft = 0 := hft 0
  have f1 : (ft == 1) = false := beq_false_of_ne (hft 1)
  have g1 : ¬ ft = 1 := hft 1
  have f2 : (ft == 2) = false := beq_false_of_ne (hft 2)
  have g2 : ¬ ft = 2 := hft 2
  have f3 : (ft == 3) = false := beq_false_of_ne (hft 3)
  have g3 : ¬ ft = 3 := hft 3
  have f4 : (ft == 4) = false := beq_false_of_ne (hft 4)
  have g4 : ¬ ft = 4 := hft 4
  have f5 : (ft == 5) = false := beq_false_of_ne (hft 5)
  have g5 : ¬ ft = 5 := hft 5
  have f6 : (ft == 6) = false := beq_false_of_ne (hft 6)
  have g6 : ¬ ft = 6 := hft 6
  have f7 : (ft == 7) = false := beq_false_of_ne (hft 7)
  have g7 : ¬ ft = 7 := hft 7
  have f8 : (ft == 8) = false := beq_false_of_ne (hft 8)
  have g8 : ¬ ft = 8 := hft 8
  have f9 : (ft == 9) = false := beq_false_of_ne (hft 9)
  have g9 : ¬ ft = 9 := hft 9
  clear hft
  have HH := Lib.hid (And.intro H (And.intro hP hF))
  have hpl := lt_p hP
  have hz : B ≤ W.heap.size := H.hB
  clear H hP hF
  go_enter Tryf.func10, Tryf.ntmps10
  go_wp2_with fail
  refine (key11 p k mu he ms sc ts fm kd W _ W.heap.size HH.out.2.1 ((Below.refl _ _).alloc (Nat.le_refl _) _) (RowAt.new W _ 41)).mono ?_
  rintro e1 w1 ⟨rfl, hb1, hq1⟩
  have hp1 := HH.out.2.1.later hb1
  have c104 := ps_sc hp1
  have hp1l := lt_p hp1
  have H1 := Lib.hid (And.intro hb1 (And.intro hq1 hp1))
  clear hb1 hq1 hp1
  go_wp2_with fail
  refine (why15 F p k mu he ms sc ts fm kd B hB hk w1 (H1.out.1.tape ▸ HH.out.2.2) H1.out.2.2).mono ?_
  rintro e2 w2 ⟨wh, na, nl, nc, rfl, hp2, hf2, hb2⟩
  have l2 := (HH.out.1.later H1.out.1).fpP H1.out.2.2 hf2 hb2.size
  have q2 := hf2 _ _ _ (ne_p H1.out.2.2 H1.out.2.1) H1.out.2.1
  have bb2 := (H1.out.1.mono hz).trans hb2
  have H2 := Lib.hid (And.intro hp2 (And.intro q2 (And.intro l2 bb2)))
  clear hp2 q2 l2 bb2 hf2 hb2 c104 hp1l hpl
  go_upto_region 28 with (fail)
  refine reg_conv rg10_28 (by kernel_rfl) ?_
  refine rgn28 F (fun c a d v w h => by cases d <;> exact h) p k mu he ms sc ts fm kd B W.heap.size (.slice none 0 0) 0 [] _ wh na nl nc w2 hB (H2.out.2.2.2.tape ▸ HH.out.2.2) H2.out.1 H2.out.2.1 H2.out.2.2.1 (by omega) (fun m tx2 W3 hA => ?_)
  obtain ⟨_, v3, g3, l3, b3, p3, _⟩ := hA
  have H3 := Lib.hid (And.intro l3 (And.intro (H2.out.2.2.2.trans b3) p3))
  clear l3 b3 p3
  go_wp2_with fail
  go_end0
  exact ⟨rfl, v3, na, nl, nc, g3, tx2, H3.out⟩
set_option maxHeartbeats 4000000 in
theorem mark10n_0 (F : Interp) (B p k mu he ms sc ts : Nat) (fm kd : Int) (hB : B ≤ p) (hk : kd = 0) (hfm : fm ≠ 3) (dt : ByteArray) (W : World) (hF : F.answers W.tape) (H : LG B k mu he ms 0 (.slice none 0 0) 0 [] W) (hP : PS p k mu he ms sc ts fm kd W) :
    Calls Tryf.prog 10 #[.pointer (some ⟨p, 0, none⟩), .int .u8 0, .agg #[.int .i32 0, .int .i32 0], .string dt] W (fun e W2 => e = .returned (.tuple #[]) ∧ LG B k mu he ms 0 (.slice none 0 0) 0 [] W2 ∧ Below B W W2 ∧ PS p k mu he ms sc ts fm kd W2) := by
  subst hk
  have HH := Lib.hid (And.intro H (And.intro hP hF))
  have hpl := lt_p hP
  have hz : B ≤ W.heap.size := H.hB
  clear H hP hF
  go_enter Tryf.func10, Tryf.ntmps10
  go_wp2_with fail
  refine (key11 p k mu he ms sc ts fm 0 W _ W.heap.size HH.out.2.1 ((Below.refl _ _).alloc (Nat.le_refl _) _) (RowAt.new W _ 41)).mono ?_
  rintro e1 w1 ⟨rfl, hb1, hq1⟩
  have H1 := Lib.hid (And.intro hb1 hq1)
  clear hb1 hq1 hpl
  go_wp2_with fail
  refine (esm17 p k mu he ms sc ts fm 0 hfm w1 (HH.out.2.1.later H1.out.1)).mono ?_
  rintro e2 w2 ⟨rfl, rfl⟩
  go_wp2_with fail
  go_end0
  exact ⟨rfl, HH.out.1.later H1.out.1, H1.out.1.mono hz, HH.out.2.1.later H1.out.1⟩
set_option maxHeartbeats 4000000 in
theorem mark10n_1 (F : Interp) (B p k mu he ms sc ts : Nat) (fm kd : Int) (hB : B ≤ p) (hk : kd = 0) (hfm : fm ≠ 3) (dt : ByteArray) (W : World) (hF : F.answers W.tape) (H : LG B k mu he ms 0 (.slice none 0 0) 0 [] W) (hP : PS p k mu he ms sc ts fm kd W) :
    Calls Tryf.prog 10 #[.pointer (some ⟨p, 0, none⟩), .int .u8 1, .agg #[.int .i32 0, .int .i32 0], .string dt] W (fun e W2 => e = .returned (.tuple #[]) ∧ LG B k mu he ms 0 (.slice none 0 0) 0 [] W2 ∧ Below B W W2 ∧ PS p k mu he ms sc ts fm kd W2) := by
  subst hk
  have HH := Lib.hid (And.intro H (And.intro hP hF))
  have hpl := lt_p hP
  have hz : B ≤ W.heap.size := H.hB
  clear H hP hF
  go_enter Tryf.func10, Tryf.ntmps10
  go_wp2_with fail
  refine (key11 p k mu he ms sc ts fm 0 W _ W.heap.size HH.out.2.1 ((Below.refl _ _).alloc (Nat.le_refl _) _) (RowAt.new W _ 41)).mono ?_
  rintro e1 w1 ⟨rfl, hb1, hq1⟩
  have H1 := Lib.hid (And.intro hb1 hq1)
  clear hb1 hq1 hpl
  go_wp2_with fail
  refine (esm17 p k mu he ms sc ts fm 0 hfm w1 (HH.out.2.1.later H1.out.1)).mono ?_
  rintro e2 w2 ⟨rfl, rfl⟩
  go_wp2_with fail
  go_end0
  exact ⟨rfl, HH.out.1.later H1.out.1, H1.out.1.mono hz, HH.out.2.1.later H1.out.1⟩
set_option maxHeartbeats 4000000 in
theorem mark10n_2 (F : Interp) (B p k mu he ms sc ts : Nat) (fm kd : Int) (hB : B ≤ p) (hk : kd = 0) (hfm : fm ≠ 3) (dt : ByteArray) (W : World) (hF : F.answers W.tape) (H : LG B k mu he ms 0 (.slice none 0 0) 0 [] W) (hP : PS p k mu he ms sc ts fm kd W) :
    Calls Tryf.prog 10 #[.pointer (some ⟨p, 0, none⟩), .int .u8 2, .agg #[.int .i32 0, .int .i32 0], .string dt] W (fun e W2 => e = .returned (.tuple #[]) ∧ LG B k mu he ms 0 (.slice none 0 0) 0 [] W2 ∧ Below B W W2 ∧ PS p k mu he ms sc ts fm kd W2) := by
  subst hk
  have HH := Lib.hid (And.intro H (And.intro hP hF))
  have hpl := lt_p hP
  have hz : B ≤ W.heap.size := H.hB
  clear H hP hF
  go_enter Tryf.func10, Tryf.ntmps10
  go_wp2_with fail
  refine (key11 p k mu he ms sc ts fm 0 W _ W.heap.size HH.out.2.1 ((Below.refl _ _).alloc (Nat.le_refl _) _) (RowAt.new W _ 41)).mono ?_
  rintro e1 w1 ⟨rfl, hb1, hq1⟩
  have H1 := Lib.hid (And.intro hb1 hq1)
  clear hb1 hq1 hpl
  go_wp2_with fail
  go_end0
  exact ⟨rfl, HH.out.1.later H1.out.1, H1.out.1.mono hz, HH.out.2.1.later H1.out.1⟩
set_option maxHeartbeats 4000000 in
theorem mark10n_3 (F : Interp) (B p k mu he ms sc ts : Nat) (fm kd : Int) (hB : B ≤ p) (hk : kd = 0) (hfm : fm ≠ 3) (dt : ByteArray) (W : World) (hF : F.answers W.tape) (H : LG B k mu he ms 0 (.slice none 0 0) 0 [] W) (hP : PS p k mu he ms sc ts fm kd W) :
    Calls Tryf.prog 10 #[.pointer (some ⟨p, 0, none⟩), .int .u8 3, .agg #[.int .i32 0, .int .i32 0], .string dt] W (fun e W2 => e = .returned (.tuple #[]) ∧ LG B k mu he ms 0 (.slice none 0 0) 0 [] W2 ∧ Below B W W2 ∧ PS p k mu he ms sc ts fm kd W2) := by
  subst hk
  have hF' := answers_open hF
  have HH := Lib.hid (And.intro H (And.intro hP hF))
  have hpl := lt_p hP
  have hz : B ≤ W.heap.size := H.hB
  clear H hP hF
  go_enter Tryf.func10, Tryf.ntmps10
  go_wp2_with fail
  refine (key11 p k mu he ms sc ts fm 0 W _ W.heap.size HH.out.2.1 (below_drewN (((Below.refl _ _).alloc (Nat.le_refl _) _).alloc (by simp) _) 1) (((RowAt.new W _ 41).alloc _).drewN 1)).mono ?_
  rintro e1 w1 ⟨rfl, hb1, hq1⟩
  have H1 := Lib.hid (And.intro hb1 hq1)
  clear hb1 hq1 hpl
  go_wp2_with fail
  refine (esm17 p k mu he ms sc ts fm 0 hfm w1 (HH.out.2.1.later H1.out.1)).mono ?_
  rintro e2 w2 ⟨rfl, rfl⟩
  go_wp2_with fail
  go_end0
  exact ⟨rfl, HH.out.1.later H1.out.1, H1.out.1.mono hz, HH.out.2.1.later H1.out.1⟩
set_option maxHeartbeats 4000000 in
theorem mark10n_4 (F : Interp) (B p k mu he ms sc ts : Nat) (fm kd : Int) (hB : B ≤ p) (hk : kd = 0) (hfm : fm ≠ 3) (dt : ByteArray) (W : World) (hF : F.answers W.tape) (H : LG B k mu he ms 0 (.slice none 0 0) 0 [] W) (hP : PS p k mu he ms sc ts fm kd W) :
    Calls Tryf.prog 10 #[.pointer (some ⟨p, 0, none⟩), .int .u8 4, .agg #[.int .i32 0, .int .i32 0], .string dt] W (fun e W2 => e = .returned (.tuple #[]) ∧ LG B k mu he ms 0 (.slice none 0 0) 0 [] W2 ∧ Below B W W2 ∧ PS p k mu he ms sc ts fm kd W2) := by
  subst hk
  have hF' := answers_open hF
  have HH := Lib.hid (And.intro H (And.intro hP hF))
  have hpl := lt_p hP
  have hz : B ≤ W.heap.size := H.hB
  clear H hP hF
  go_enter Tryf.func10, Tryf.ntmps10
  go_wp2_with fail
  refine (key11 p k mu he ms sc ts fm 0 W _ W.heap.size HH.out.2.1 (below_drewN (((Below.refl _ _).alloc (Nat.le_refl _) _).alloc (by simp) _) 1) (((RowAt.new W _ 41).alloc _).drewN 1)).mono ?_
  rintro e1 w1 ⟨rfl, hb1, hq1⟩
  have H1 := Lib.hid (And.intro hb1 hq1)
  clear hb1 hq1 hpl
  go_wp2_with fail
  refine (esm17 p k mu he ms sc ts fm 0 hfm w1 (HH.out.2.1.later H1.out.1)).mono ?_
  rintro e2 w2 ⟨rfl, rfl⟩
  go_wp2_with fail
  go_end0
  exact ⟨rfl, HH.out.1.later H1.out.1, H1.out.1.mono hz, HH.out.2.1.later H1.out.1⟩
set_option maxHeartbeats 4000000 in
theorem mark10n_5 (F : Interp) (B p k mu he ms sc ts : Nat) (fm kd : Int) (hB : B ≤ p) (hk : kd = 0) (hfm : fm ≠ 3) (dt : ByteArray) (W : World) (hF : F.answers W.tape) (H : LG B k mu he ms 0 (.slice none 0 0) 0 [] W) (hP : PS p k mu he ms sc ts fm kd W) :
    Calls Tryf.prog 10 #[.pointer (some ⟨p, 0, none⟩), .int .u8 5, .agg #[.int .i32 0, .int .i32 0], .string dt] W (fun e W2 => e = .returned (.tuple #[]) ∧ LG B k mu he ms 0 (.slice none 0 0) 0 [] W2 ∧ Below B W W2 ∧ PS p k mu he ms sc ts fm kd W2) := by
  subst hk
  have HH := Lib.hid (And.intro H (And.intro hP hF))
  have hpl := lt_p hP
  have hz : B ≤ W.heap.size := H.hB
  clear H hP hF
  go_enter Tryf.func10, Tryf.ntmps10
  go_wp2_with fail
  refine (key11 p k mu he ms sc ts fm 0 W _ W.heap.size HH.out.2.1 ((Below.refl _ _).alloc (Nat.le_refl _) _) (RowAt.new W _ 41)).mono ?_
  rintro e1 w1 ⟨rfl, hb1, hq1⟩
  have H1 := Lib.hid (And.intro hb1 hq1)
  clear hb1 hq1 hpl
  go_wp2_with fail
  refine (esm17 p k mu he ms sc ts fm 0 hfm w1 (HH.out.2.1.later H1.out.1)).mono ?_
  rintro e2 w2 ⟨rfl, rfl⟩
  go_wp2_with fail
  go_end0
  exact ⟨rfl, HH.out.1.later H1.out.1, H1.out.1.mono hz, HH.out.2.1.later H1.out.1⟩
set_option maxHeartbeats 4000000 in
theorem mark10n_6 (F : Interp) (B p k mu he ms sc ts : Nat) (fm kd : Int) (hB : B ≤ p) (hk : kd = 0) (hfm : fm ≠ 3) (dt : ByteArray) (W : World) (hF : F.answers W.tape) (H : LG B k mu he ms 0 (.slice none 0 0) 0 [] W) (hP : PS p k mu he ms sc ts fm kd W) :
    Calls Tryf.prog 10 #[.pointer (some ⟨p, 0, none⟩), .int .u8 6, .agg #[.int .i32 0, .int .i32 0], .string dt] W (fun e W2 => e = .returned (.tuple #[]) ∧ LG B k mu he ms 0 (.slice none 0 0) 0 [] W2 ∧ Below B W W2 ∧ PS p k mu he ms sc ts fm kd W2) := by
  subst hk
  have HH := Lib.hid (And.intro H (And.intro hP hF))
  have hpl := lt_p hP
  have hz : B ≤ W.heap.size := H.hB
  clear H hP hF
  go_enter Tryf.func10, Tryf.ntmps10
  go_wp2_with fail
  refine (key11 p k mu he ms sc ts fm 0 W _ W.heap.size HH.out.2.1 ((Below.refl _ _).alloc (Nat.le_refl _) _) (RowAt.new W _ 41)).mono ?_
  rintro e1 w1 ⟨rfl, hb1, hq1⟩
  have H1 := Lib.hid (And.intro hb1 hq1)
  clear hb1 hq1 hpl
  go_wp2_with fail
  refine (esm17 p k mu he ms sc ts fm 0 hfm w1 (HH.out.2.1.later H1.out.1)).mono ?_
  rintro e2 w2 ⟨rfl, rfl⟩
  go_wp2_with fail
  go_end0
  exact ⟨rfl, HH.out.1.later H1.out.1, H1.out.1.mono hz, HH.out.2.1.later H1.out.1⟩
set_option maxHeartbeats 4000000 in
theorem mark10n_7 (F : Interp) (B p k mu he ms sc ts : Nat) (fm kd : Int) (hB : B ≤ p) (hk : kd = 0) (hfm : fm ≠ 3) (dt : ByteArray) (W : World) (hF : F.answers W.tape) (H : LG B k mu he ms 0 (.slice none 0 0) 0 [] W) (hP : PS p k mu he ms sc ts fm kd W) :
    Calls Tryf.prog 10 #[.pointer (some ⟨p, 0, none⟩), .int .u8 7, .agg #[.int .i32 0, .int .i32 0], .string dt] W (fun e W2 => e = .returned (.tuple #[]) ∧ LG B k mu he ms 0 (.slice none 0 0) 0 [] W2 ∧ Below B W W2 ∧ PS p k mu he ms sc ts fm kd W2) := by
  subst hk
  have HH := Lib.hid (And.intro H (And.intro hP hF))
  have hpl := lt_p hP
  have hz : B ≤ W.heap.size := H.hB
  clear H hP hF
  go_enter Tryf.func10, Tryf.ntmps10
  go_wp2_with fail
  refine (key11 p k mu he ms sc ts fm 0 W _ W.heap.size HH.out.2.1 ((Below.refl _ _).alloc (Nat.le_refl _) _) (RowAt.new W _ 41)).mono ?_
  rintro e1 w1 ⟨rfl, hb1, hq1⟩
  have H1 := Lib.hid (And.intro hb1 hq1)
  clear hb1 hq1 hpl
  go_wp2_with fail
  refine (esm17 p k mu he ms sc ts fm 0 hfm w1 (HH.out.2.1.later H1.out.1)).mono ?_
  rintro e2 w2 ⟨rfl, rfl⟩
  go_wp2_with fail
  go_end0
  exact ⟨rfl, HH.out.1.later H1.out.1, H1.out.1.mono hz, HH.out.2.1.later H1.out.1⟩
set_option maxHeartbeats 4000000 in
theorem mark10n_8 (F : Interp) (B p k mu he ms sc ts : Nat) (fm kd : Int) (hB : B ≤ p) (hk : kd = 0) (hfm : fm ≠ 3) (dt : ByteArray) (W : World) (hF : F.answers W.tape) (H : LG B k mu he ms 0 (.slice none 0 0) 0 [] W) (hP : PS p k mu he ms sc ts fm kd W) :
    Calls Tryf.prog 10 #[.pointer (some ⟨p, 0, none⟩), .int .u8 8, .agg #[.int .i32 0, .int .i32 0], .string dt] W (fun e W2 => e = .returned (.tuple #[]) ∧ LG B k mu he ms 0 (.slice none 0 0) 0 [] W2 ∧ Below B W W2 ∧ PS p k mu he ms sc ts fm kd W2) := by
  subst hk
  have HH := Lib.hid (And.intro H (And.intro hP hF))
  have hpl := lt_p hP
  have hz : B ≤ W.heap.size := H.hB
  clear H hP hF
  go_enter Tryf.func10, Tryf.ntmps10
  go_wp2_with fail
  refine (key11 p k mu he ms sc ts fm 0 W _ W.heap.size HH.out.2.1 ((Below.refl _ _).alloc (Nat.le_refl _) _) (RowAt.new W _ 41)).mono ?_
  rintro e1 w1 ⟨rfl, hb1, hq1⟩
  have H1 := Lib.hid (And.intro hb1 hq1)
  clear hb1 hq1 hpl
  go_wp2_with fail
  refine (esm17 p k mu he ms sc ts fm 0 hfm w1 (HH.out.2.1.later H1.out.1)).mono ?_
  rintro e2 w2 ⟨rfl, rfl⟩
  go_wp2_with fail
  go_end0
  exact ⟨rfl, HH.out.1.later H1.out.1, H1.out.1.mono hz, HH.out.2.1.later H1.out.1⟩
set_option maxHeartbeats 4000000 in
theorem mark10n_9 (F : Interp) (B p k mu he ms sc ts : Nat) (fm kd : Int) (hB : B ≤ p) (hk : kd = 0) (hfm : fm ≠ 3) (dt : ByteArray) (W : World) (hF : F.answers W.tape) (H : LG B k mu he ms 0 (.slice none 0 0) 0 [] W) (hP : PS p k mu he ms sc ts fm kd W) :
    Calls Tryf.prog 10 #[.pointer (some ⟨p, 0, none⟩), .int .u8 9, .agg #[.int .i32 0, .int .i32 0], .string dt] W (fun e W2 => e = .returned (.tuple #[]) ∧ LG B k mu he ms 0 (.slice none 0 0) 0 [] W2 ∧ Below B W W2 ∧ PS p k mu he ms sc ts fm kd W2) := by
  subst hk
  have HH := Lib.hid (And.intro H (And.intro hP hF))
  have hpl := lt_p hP
  have hz : B ≤ W.heap.size := H.hB
  clear H hP hF
  go_enter Tryf.func10, Tryf.ntmps10
  go_wp2_with fail
  refine (key11 p k mu he ms sc ts fm 0 W _ W.heap.size HH.out.2.1 ((Below.refl _ _).alloc (Nat.le_refl _) _) (RowAt.new W _ 41)).mono ?_
  rintro e1 w1 ⟨rfl, hb1, hq1⟩
  have H1 := Lib.hid (And.intro hb1 hq1)
  clear hb1 hq1 hpl
  go_wp2_with fail
  refine (esm17 p k mu he ms sc ts fm 0 hfm w1 (HH.out.2.1.later H1.out.1)).mono ?_
  rintro e2 w2 ⟨rfl, rfl⟩
  go_wp2_with fail
  go_end0
  exact ⟨rfl, HH.out.1.later H1.out.1, H1.out.1.mono hz, HH.out.2.1.later H1.out.1⟩
set_option maxHeartbeats 4000000 in
theorem mark10n_d (F : Interp) (B p k mu he ms sc ts : Nat) (fm kd : Int) (hB : B ≤ p) (hk : kd = 0) (hfm : fm ≠ 3) (ft : Int) (hft : ∀ i : Fin 10, ft ≠ (i.val : Int)) (dt : ByteArray) (W : World) (hF : F.answers W.tape) (H : LG B k mu he ms 0 (.slice none 0 0) 0 [] W) (hP : PS p k mu he ms sc ts fm kd W) :
    Calls Tryf.prog 10 #[.pointer (some ⟨p, 0, none⟩), .int .u8 ft, .agg #[.int .i32 0, .int .i32 0], .string dt] W (fun e W2 => e = .returned (.tuple #[]) ∧ LG B k mu he ms 0 (.slice none 0 0) 0 [] W2 ∧ Below B W W2 ∧ PS p k mu he ms sc ts fm kd W2) := by
  subst hk
  have f0 : (ft == 0) = false := beq_false_of_ne (hft 0)
  have g0 : ¬ ft = 0 := hft 0
  have f1 : (ft == 1) = false := beq_false_of_ne (hft 1)
  have g1 : ¬ ft = 1 := hft 1
  have f2 : (ft == 2) = false := beq_false_of_ne (hft 2)
  have g2 : ¬ ft = 2 := hft 2
  have f3 : (ft == 3) = false := beq_false_of_ne (hft 3)
  have g3 : ¬ ft = 3 := hft 3
  have f4 : (ft == 4) = false := beq_false_of_ne (hft 4)
  have g4 : ¬ ft = 4 := hft 4
  have f5 : (ft == 5) = false := beq_false_of_ne (hft 5)
  have g5 : ¬ ft = 5 := hft 5
  have f6 : (ft == 6) = false := beq_false_of_ne (hft 6)
  have g6 : ¬ ft = 6 := hft 6
  have f7 : (ft == 7) = false := beq_false_of_ne (hft 7)
  have g7 : ¬ ft = 7 := hft 7
  have f8 : (ft == 8) = false := beq_false_of_ne (hft 8)
  have g8 : ¬ ft = 8 := hft 8
  have f9 : (ft == 9) = false := beq_false_of_ne (hft 9)
  have g9 : ¬ ft = 9 := hft 9
  clear hft
  have HH := Lib.hid (And.intro H (And.intro hP hF))
  have hpl := lt_p hP
  have hz : B ≤ W.heap.size := H.hB
  clear H hP hF
  go_enter Tryf.func10, Tryf.ntmps10
  go_wp2_with fail
  refine (key11 p k mu he ms sc ts fm 0 W _ W.heap.size HH.out.2.1 ((Below.refl _ _).alloc (Nat.le_refl _) _) (RowAt.new W _ 41)).mono ?_
  rintro e1 w1 ⟨rfl, hb1, hq1⟩
  have H1 := Lib.hid (And.intro hb1 hq1)
  clear hb1 hq1 hpl
  go_wp2_with fail
  refine (esm17 p k mu he ms sc ts fm 0 hfm w1 (HH.out.2.1.later H1.out.1)).mono ?_
  rintro e2 w2 ⟨rfl, rfl⟩
  go_wp2_with fail
  go_end0
  exact ⟨rfl, HH.out.1.later H1.out.1, H1.out.1.mono hz, HH.out.2.1.later H1.out.1⟩
theorem mark10 (F : Interp) (B p k mu he ms sc ts : Nat) (fm kd : Int) (hB : B ≤ p) (hk : kd = 1 ∨ kd = 2 ∨ kd = 3 ∨ kd = 4 ∨ kd = 5) (ft : Int) (dt : ByteArray) (W : World) (hF : F.answers W.tape) (H : LG B k mu he ms 0 (.slice none 0 0) 0 [] W) (hP : PS p k mu he ms sc ts fm kd W) :
    Calls Tryf.prog 10 #[.pointer (some ⟨p, 0, none⟩), .int .u8 ft, .agg #[.int .i32 0, .int .i32 0], .string dt] W (Marked p sc ts fm kd B k mu he ms W) := by
  by_cases e0 : ft = 0
  · subst e0; exact mark10_0 F B p k mu he ms sc ts fm kd hB hk dt W hF H hP
  by_cases e1 : ft = 1
  · subst e1; exact mark10_1 F B p k mu he ms sc ts fm kd hB hk dt W hF H hP
  by_cases e2 : ft = 2
  · subst e2; exact mark10_2 F B p k mu he ms sc ts fm kd hB hk dt W hF H hP
  by_cases e3 : ft = 3
  · subst e3; exact mark10_3 F B p k mu he ms sc ts fm kd hB hk dt W hF H hP
  by_cases e4 : ft = 4
  · subst e4; exact mark10_4 F B p k mu he ms sc ts fm kd hB hk dt W hF H hP
  by_cases e5 : ft = 5
  · subst e5; exact mark10_5 F B p k mu he ms sc ts fm kd hB hk dt W hF H hP
  by_cases e6 : ft = 6
  · subst e6; exact mark10_6 F B p k mu he ms sc ts fm kd hB hk dt W hF H hP
  by_cases e7 : ft = 7
  · subst e7; exact mark10_7 F B p k mu he ms sc ts fm kd hB hk dt W hF H hP
  by_cases e8 : ft = 8
  · subst e8; exact mark10_8 F B p k mu he ms sc ts fm kd hB hk dt W hF H hP
  by_cases e9 : ft = 9
  · subst e9; exact mark10_9 F B p k mu he ms sc ts fm kd hB hk dt W hF H hP
  exact mark10_d F B p k mu he ms sc ts fm kd hB hk ft (fun i => by match i with
    | ⟨0, _⟩ => exact e0
    | ⟨1, _⟩ => exact e1
    | ⟨2, _⟩ => exact e2
    | ⟨3, _⟩ => exact e3
    | ⟨4, _⟩ => exact e4
    | ⟨5, _⟩ => exact e5
    | ⟨6, _⟩ => exact e6
    | ⟨7, _⟩ => exact e7
    | ⟨8, _⟩ => exact e8
    | ⟨9, _⟩ => exact e9
    ) dt W hF H hP
theorem mark10n (F : Interp) (B p k mu he ms sc ts : Nat) (fm kd : Int) (hB : B ≤ p) (hk : kd = 0) (hfm : fm ≠ 3) (ft : Int) (dt : ByteArray) (W : World) (hF : F.answers W.tape) (H : LG B k mu he ms 0 (.slice none 0 0) 0 [] W) (hP : PS p k mu he ms sc ts fm kd W) :
    Calls Tryf.prog 10 #[.pointer (some ⟨p, 0, none⟩), .int .u8 ft, .agg #[.int .i32 0, .int .i32 0], .string dt] W (fun e W2 => e = .returned (.tuple #[]) ∧ LG B k mu he ms 0 (.slice none 0 0) 0 [] W2 ∧ Below B W W2 ∧ PS p k mu he ms sc ts fm kd W2) := by
  by_cases e0 : ft = 0
  · subst e0; exact mark10n_0 F B p k mu he ms sc ts fm kd hB hk hfm dt W hF H hP
  by_cases e1 : ft = 1
  · subst e1; exact mark10n_1 F B p k mu he ms sc ts fm kd hB hk hfm dt W hF H hP
  by_cases e2 : ft = 2
  · subst e2; exact mark10n_2 F B p k mu he ms sc ts fm kd hB hk hfm dt W hF H hP
  by_cases e3 : ft = 3
  · subst e3; exact mark10n_3 F B p k mu he ms sc ts fm kd hB hk hfm dt W hF H hP
  by_cases e4 : ft = 4
  · subst e4; exact mark10n_4 F B p k mu he ms sc ts fm kd hB hk hfm dt W hF H hP
  by_cases e5 : ft = 5
  · subst e5; exact mark10n_5 F B p k mu he ms sc ts fm kd hB hk hfm dt W hF H hP
  by_cases e6 : ft = 6
  · subst e6; exact mark10n_6 F B p k mu he ms sc ts fm kd hB hk hfm dt W hF H hP
  by_cases e7 : ft = 7
  · subst e7; exact mark10n_7 F B p k mu he ms sc ts fm kd hB hk hfm dt W hF H hP
  by_cases e8 : ft = 8
  · subst e8; exact mark10n_8 F B p k mu he ms sc ts fm kd hB hk hfm dt W hF H hP
  by_cases e9 : ft = 9
  · subst e9; exact mark10n_9 F B p k mu he ms sc ts fm kd hB hk hfm dt W hF H hP
  exact mark10n_d F B p k mu he ms sc ts fm kd hB hk hfm ft (fun i => by match i with
    | ⟨0, _⟩ => exact e0
    | ⟨1, _⟩ => exact e1
    | ⟨2, _⟩ => exact e2
    | ⟨3, _⟩ => exact e3
    | ⟨4, _⟩ => exact e4
    | ⟨5, _⟩ => exact e5
    | ⟨6, _⟩ => exact e6
    | ⟨7, _⟩ => exact e7
    | ⟨8, _⟩ => exact e8
    | ⟨9, _⟩ => exact e9
    ) dt W hF H hP

end Go.Proofs.YtidicogmfpfibaaFmt
