import Derived.Test.YtfmfniddnlpkmaaDoorKit
import Derived.Test.YtfmfniddnlpkmaaDoorViC
namespace Go.Proofs.YtfmfniddnlpkmaaDoor
open Go.ChangeShapes Go.WideShapes Go.ChangeAt Go.RowKit
set_option linter.unusedVariables false
set_option maxRecDepth 100000
set_option maxHeartbeats 2000000

def Rec36 (B p : Nat) (src un mode fmt : Int) (n : Nat) (ts : Bool) (j : Nat) (m0 m1 : Int) (gv : Value) (w : World) (e : Ending) (w' : World) : Prop := e = .returned (.tuple #[]) ∧ StG w' B p src un mode fmt n ts (j + 1) m0 m1 gv ∧ Below B w w' ∧ Kp w w'
theorem StG.base {w : World} {B p n j : Nat} {src un mode fmt m0 m1 : Int} {ts : Bool} {gv : Value} (h : StG w B p src un mode fmt n ts j m0 m1 gv) : B ≤ w.heap.size := by
  obtain ⟨cs, M, ms, S, c, ds, vt, rp, pc, rm, m5, rs, hd, hu, bp, bm, bs⟩ := h
  have := rp.lt
  omega
theorem rec36 (B p : Nat) (src un mode fmt m0 m1 : Int) (n : Nat) (ts : Bool) (j : Nat) (gv : Value) (w : World) (hn : n ≤ 4096) (hj : j ≤ 4096) (h : StG w B p src un mode fmt n ts j m0 m1 gv) :
    Calls Tryd.prog 36 #[.pointer (some ⟨p, 0, none⟩), .agg #[.int .u32 src, .int .u32 n]] w (Rec36 B p src un mode fmt n ts j m0 m1 gv w) := by
  have hB := h.base
  obtain ⟨cs, M, ms, S, c, ds, vt, rp, pc, rm, m5, rs, hd, hu, bp, bm, bs⟩ := id h
  have hsz : n * 10 + 4 < ds.size := (Array.getElem?_eq_some_iff.1 hd).1
  have c350 := rp.cellv pc.c350
  have c106 := rp.cellv pc.c106
  have c105 := rp.cellv pc.c105
  have c32 := rp.cellv pc.c32
  have c108 := rp.cellv pc.c108
  have d4 := rs.cellv hd
  have fd := rs.frozen (n * 10 + 4)
  have zp := rp.lt
  have zs := rs.lt
  have nps : p ≠ S := rp.ne rs (by decide)
  have RP := Lib.hid rp
  have PCC := Lib.hid pc
  have RM := Lib.hid rm
  have M5 := Lib.hid m5
  have RS := Lib.hid rs
  have HSZ := Lib.hid hsz
  clear rp pc rm m5 rs hd hsz h
  cases ts
  · clear hu
    go_enter Tryd.func36, Tryd.ntmps36
    go_wp2_with fail
    go_region
    go_wp2_with fail
    go_end0
    refine ⟨rfl, StG.below (w := w.setCell ⟨S, n * 10 + 4, none⟩ (.int .u32 ((j : Int) + 1))) ⟨cs, M, ms, S, c, _, vt, RP.out.set_other nps _ _, PCC.out, RM.out.set_other (RM.out.ne RS.out (by decide)) _ _, M5.out, RS.out.set (n * 10 + 4) _, ?_, (fun e => by cases e), bp, bm, bs⟩ ((Below.refl _ _).alloc (Nat.le_refl _) _).drew, ((Below.setCell (Below.refl _ _) bs _).alloc (by simpa using hB) _).drew, (Kp.set (fun _ _ _ h _ => h) RS.out (by decide) _).trans (Kp.of_below ((Below.refl _ _).alloc (Nat.le_refl _) _).drew)⟩
    rw [Array.getElem?_setIfInBounds, if_pos rfl, if_pos HSZ.out, show ((j + 1 : Nat) : Int) = (j : Int) + 1 by omega]
  · obtain ⟨U, uc, us, x, rfl, ru, hx, bu⟩ := hu rfl
    have u0 := ru.cellv hx
    have fu := ru.frozen n
    have zu := ru.lt
    have npu : p ≠ U := RP.out.ne ru (by decide)
    have nsu : S ≠ U := RS.out.ne ru (by decide)
    have RU := Lib.hid ru
    have HX := Lib.hid hx
    clear ru hx
    go_enter Tryd.func36, Tryd.ntmps36
    go_wp2_with fail
    go_region
    go_wp2_with fail
    go_region
    go_wp2_with fail
    go_end0
    have hus : n < us.size := (Array.getElem?_eq_some_iff.1 HX.out).1
    refine ⟨rfl, StG.below (w := (w.setCell ⟨S, n * 10 + 4, none⟩ (.int .u32 ((j : Int) + 1))).setCell ⟨U, n, none⟩ (.int .u32 ((x + 1) % 4294967296))) ⟨cs, M, ms, S, c, _, _, (RP.out.set_other nps _ _).set_other npu _ _, PCC.out, (RM.out.set_other (RM.out.ne RS.out (by decide)) _ _).set_other (RM.out.ne RU.out (by decide)) _ _, M5.out, (RS.out.set (n * 10 + 4) _).set_other nsu _ _, ?_, (fun _ => ⟨U, uc, _, (x + 1) % 4294967296, rfl, (RU.out.set_other (fun e => nsu e.symm) _ _).set n _, ?_, bu⟩), bp, bm, bs⟩ (((Below.refl _ _).alloc (Nat.le_refl _) _).drew).drew, (((Below.setCell (Below.setCell (Below.refl _ _) bs _) bu _).alloc (by simpa using hB) _).drew).drew, (Kp.set (Kp.set (fun _ _ _ h _ => h) RS.out (by decide) _) (RU.out.set_other (fun e => nsu e.symm) _ _) (by decide) _).trans (Kp.of_below (((Below.refl _ _).alloc (Nat.le_refl _) _).drew).drew)⟩
    · rw [Array.getElem?_setIfInBounds, if_pos rfl, if_pos HSZ.out, show ((j + 1 : Nat) : Int) = (j : Int) + 1 by omega]
    · rw [Array.getElem?_setIfInBounds, if_pos rfl, if_pos hus]

end Go.Proofs.YtfmfniddnlpkmaaDoor
