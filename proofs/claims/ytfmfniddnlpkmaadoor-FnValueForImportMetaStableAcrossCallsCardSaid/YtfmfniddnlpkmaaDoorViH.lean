import Derived.Test.YtfmfniddnlpkmaaDoorKit
import Derived.Test.YtfmfniddnlpkmaaDoorViG
import Derived.Test.YtfmfniddnlpkmaaDoorAs
namespace Go.Proofs.YtfmfniddnlpkmaaDoor
open Go.ChangeShapes Go.WideShapes Go.ChangeAt Go.RowKit
set_option linter.unusedVariables false
set_option maxRecDepth 100000
set_option maxHeartbeats 2000000

theorem below_drewN {B : Nat} {w w' : World} (h : Below B w w') (n : Nat) : Below B w (w'.drewN n) := ⟨h.os, h.tape, h.output, h.size, h.block⟩
theorem shape28N (w : World) : Calls Tryd.prog 28 #[.agg #[.nilIface, .int .i32 0]] w fun e w' => e = .returned (.tuple #[.int .i64 0, .int .u32 0, .int .u32 0, .int .i32 0]) ∧ Below w.heap.size w w' := by
  go_enter Tryd.func28, Tryd.ntmps28
  go_wp2_with fail
  go_quiet (fail)
  go_wp2_with fail
  go_returns
  exact ⟨rfl, below_drewN (by go_grown) _⟩
theorem shape28A (x : Nat) (es : Array Value) (src loc : Int) (n : Nat) (w : World) (hx : RowAt w x es 205) (h0 : es[0]? = some (.int .u32 src)) (h1 : es[1]? = some (.int .u32 n)) :
    Calls Tryd.prog 28 #[.agg #[.iface 203 (.pointer (some ⟨x, 0, none⟩)), .int .i32 loc]] w fun e w' => e = .returned (.tuple #[.int .i64 1, .int .u32 src, .int .u32 n, .int .i32 loc]) ∧ Below w.heap.size w w' := by
  have c0 := hx.cellv h0
  have c1 := hx.cellv h1
  have zx := hx.lt
  have zx1 : x < w.heap.size + 1 := by omega
  clear hx h0 h1
  go_enter Tryd.func28, Tryd.ntmps28
  go_wp2_with fail
  go_quiet (fail)
  go_wp2_with fail
  go_returns
  exact ⟨rfl, below_drewN (by go_grown) _⟩
theorem cnt8A (B p : Nat) (src un mode fmt : Int) (n : Nat) (ts : Bool) (w : World) (h : StA w B p src un mode fmt n ts) : Calls Tryd.prog 8 #[.pointer (some ⟨p, 0, none⟩)] w fun e w' => e = .returned (.int .i64 n) ∧ w = w' := by
  obtain ⟨cs, M, ms, S, xs, vt, rp, pc, _⟩ := h
  have c106 := rp.cellv pc.c106
  clear rp pc
  go_enter Tryd.func8, Tryd.ntmps8
  go_wp2_with fail
  go_ret
  exact ⟨rfl, rfl⟩
theorem cnt8B (B p : Nat) (src un mode fmt : Int) (n : Nat) (ts : Bool) (j : Nat) (w : World) (h : StU w B p src un mode fmt n ts j) : Calls Tryd.prog 8 #[.pointer (some ⟨p, 0, none⟩)] w fun e w' => e = .returned (.int .i64 ((n : Int) + 1)) ∧ w = w' := by
  obtain ⟨G, gc, cs, M, ms, S, c, ds, vt, rp, pc, _⟩ := h
  have c106 := rp.cellv pc.c106
  clear rp pc
  go_enter Tryd.func8, Tryd.ntmps8
  go_wp2_with fail
  go_ret
  exact ⟨rfl, rfl⟩
theorem gen9A (B p : Nat) (src un mode fmt : Int) (n : Nat) (ts : Bool) (w : World) (h : StA w B p src un mode fmt n ts) : Calls Tryd.prog 9 #[.pointer (some ⟨p, 0, none⟩)] w fun e w' => e = .returned (.int .i64 0) ∧ w = w' := by
  obtain ⟨cs, M, ms, S, xs, vt, rp, pc, rm, m5, _⟩ := h
  have c187 := rp.cellv pc.c187
  have c5 := rm.cellv m5
  clear rp pc rm m5
  go_enter Tryd.func9, Tryd.ntmps9
  go_wp2_with fail
  go_ret
  exact ⟨rfl, rfl⟩
theorem gen9B (B p : Nat) (src un mode fmt : Int) (n : Nat) (ts : Bool) (j : Nat) (w : World) (h : StU w B p src un mode fmt n ts j) : Calls Tryd.prog 9 #[.pointer (some ⟨p, 0, none⟩)] w fun e w' => e = .returned (.int .i64 1) ∧ w = w' := by
  obtain ⟨G, gc, cs, M, ms, S, c, ds, vt, rp, pc, rm, m5, _⟩ := h
  have c187 := rp.cellv pc.c187
  have c5 := rm.cellv m5
  clear rp pc rm m5
  go_enter Tryd.func9, Tryd.ntmps9
  go_wp2_with fail
  go_ret
  exact ⟨rfl, rfl⟩
theorem use10 (B p : Nat) (src un mode fmt : Int) (n : Nat) (ts : Bool) (j : Nat) (w : World) (h : StU w B p src un mode fmt n ts j) : Calls Tryd.prog 10 #[.pointer (some ⟨p, 0, none⟩), .int .i64 n] w fun e w' => e = .returned (.int .u32 j) ∧ w = w' := by
  obtain ⟨G, gc, cs, M, ms, S, c, ds, vt, rp, pc, rm, m5, rs, hd, _⟩ := h
  have c106 := rp.cellv pc.c106
  have d4 := rs.cellv hd
  clear rp pc rm m5 rs hd
  go_enter Tryd.func10, Tryd.ntmps10
  go_wp2_with fail
  go_ret
  exact ⟨rfl, rfl⟩

/-- One call of the exported function. -/
def Zz7N (B p : Nat) (src un mode fmt : Int) (n : Nat) (ts : Bool) (w : World) (e : Ending) (w' : World) : Prop :=
  e = .returned (.tuple #[.int .i64 0, .int .u32 0, .int .u32 0, .int .i32 0, .bool false]) ∧ StA w' B p src un mode fmt n ts ∧ Below B w w'
def Zz7Y (B p : Nat) (src un mode fmt loc : Int) (n : Nat) (ts : Bool) (j : Nat) (w : World) (e : Ending) (w' : World) : Prop :=
  e = .returned (.tuple #[.int .i64 1, .int .u32 src, .int .u32 n, .int .i32 loc, .bool true]) ∧ StU w' B p src un mode fmt n ts j ∧ Below B w w'
theorem zz7N (B p : Nat) (src un mode fmt loc : Int) (n : Nat) (ts : Bool) (w : World) (h : StA w B p src un mode fmt n ts) (hr : rew un mode fmt = false) :
    Calls Tryd.prog 7 #[.pointer (some ⟨p, 0, none⟩), .int .i32 loc] w (Zz7N B p src un mode fmt n ts w) := by
  have H := Lib.hid (val27N B p src un mode fmt loc n ts w h hr)
  have hB := h.base
  clear h hr
  go_enter Tryd.func7, Tryd.ntmps7
  go_wp2_with fail
  refine H.out.mono ?_
  clear H
  rintro e w1 ⟨rfl, h1, hb1⟩
  have H1 := Lib.hid h1
  have HB1 := Lib.hid hb1
  clear h1 hb1
  go_wp2_with fail
  refine (shape28N _).mono ?_
  rintro e w2 ⟨rfl, hb2⟩
  have HB2 := Lib.hid hb2
  clear hb2
  go_wp2_with fail
  go_returns
  have hb3 : Below w1.heap.size w1 w2 := Below.trans ((Below.refl _ _).alloc (Nat.le_refl _) _) (HB2.out.mono (by simp))
  exact ⟨rfl, H1.out.below hb3, HB1.out.trans (hb3.mono (Nat.le_trans hB HB1.out.size))⟩

theorem zz7A (B p : Nat) (src un mode fmt loc : Int) (n : Nat) (ts : Bool) (w : World) (hn : n ≤ 4096) (hI : IR w) (hB0 : 0 < B) (h : StA w B p src un mode fmt n ts) (hr : rew un mode fmt = true) :
    Calls Tryd.prog 7 #[.pointer (some ⟨p, 0, none⟩), .int .i32 loc] w (Zz7Y B p src un mode fmt loc n ts 1 w) := by
  have H := Lib.hid (val27A B p src un mode fmt loc n ts w hn hI hB0 h hr)
  have hB := h.base
  clear h hr hI
  go_enter Tryd.func7, Tryd.ntmps7
  go_wp2_with fail
  refine H.out.mono ?_
  clear H
  rintro e w1 ⟨x, es, rfl, hx, h0, hh1, ⟨G, gc, h1⟩, hb1⟩
  have H1 := Lib.hid h1
  have HB1 := Lib.hid hb1
  have HX := Lib.hid hx
  have HX0 := Lib.hid h0
  have HX1 := Lib.hid hh1
  clear h1 hb1 hx h0 hh1
  go_wp2_with fail
  refine (shape28A x es src loc n _ (HX.out.alloc _) HX0.out HX1.out).mono ?_
  rintro e w2 ⟨rfl, hb2⟩
  have HB2 := Lib.hid hb2
  clear hb2
  go_wp2_with fail
  go_returns
  have hb3 : Below w1.heap.size w1 w2 := Below.trans ((Below.refl _ _).alloc (Nat.le_refl _) _) (HB2.out.mono (by simp))
  exact ⟨rfl, ⟨G, gc, H1.out.below hb3⟩, HB1.out.trans (hb3.mono (Nat.le_trans hB HB1.out.size))⟩

theorem zz7B (B p : Nat) (src un mode fmt loc : Int) (n : Nat) (ts : Bool) (j : Nat) (w : World) (hn : n ≤ 4096) (hj : j ≤ 4096) (hI : IR w) (hB0 : 0 < B) (h : StU w B p src un mode fmt n ts j) (hr : rew un mode fmt = true) :
    Calls Tryd.prog 7 #[.pointer (some ⟨p, 0, none⟩), .int .i32 loc] w (Zz7Y B p src un mode fmt loc n ts (j + 1) w) := by
  have H := Lib.hid (val27B B p src un mode fmt loc n ts j w hn hj hI hB0 h hr)
  have hB : B ≤ w.heap.size := by
    obtain ⟨G, gc, h⟩ := h
    exact h.base
  clear h hr hI
  go_enter Tryd.func7, Tryd.ntmps7
  go_wp2_with fail
  refine H.out.mono ?_
  clear H
  rintro e w1 ⟨x, es, rfl, hx, h0, hh1, ⟨G, gc, h1⟩, hb1⟩
  have H1 := Lib.hid h1
  have HB1 := Lib.hid hb1
  have HX := Lib.hid hx
  have HX0 := Lib.hid h0
  have HX1 := Lib.hid hh1
  clear h1 hb1 hx h0 hh1
  go_wp2_with fail
  refine (shape28A x es src loc n _ (HX.out.alloc _) HX0.out HX1.out).mono ?_
  rintro e w2 ⟨rfl, hb2⟩
  have HB2 := Lib.hid hb2
  clear hb2
  go_wp2_with fail
  go_returns
  have hb3 : Below w1.heap.size w1 w2 := Below.trans ((Below.refl _ _).alloc (Nat.le_refl _) _) (HB2.out.mono (by simp))
  exact ⟨rfl, ⟨G, gc, H1.out.below hb3⟩, HB1.out.trans (hb3.mono (Nat.le_trans hB HB1.out.size))⟩

end Go.Proofs.YtfmfniddnlpkmaaDoor
