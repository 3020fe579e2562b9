import Derived.Test.YtidicogmfpfibabFmtKit
import Derived.Test.YtidicogmfpfibabFmtMaK
import Derived.Laws.OwnMore
namespace Go.Proofs.YtidicogmfpfibabFmt.fnMarkAsyncFnLogsExactlyWhenRefused
open Go.ChangeShapes Go.WideShapes Go.ChangeAt Go.RowKit
set_option linter.unusedVariables false
set_option maxRecDepth 100000
set_option maxHeartbeats 2000000

open Go.MuLone Go.Extern.Stop Go.Stop Go.Extern
theorem mark6 (F : Interp) (s : ByteArray) (p k mu he ms : Nat) (un : Int) (st : Nat) (l : Int) (b : Bool) (B : Nat) (W : World) (hB : B ≤ p) (hF : F.answers W.tape) (hT : TB B W) (hP : PM p k mu he ms un s W) (H : LG B k mu he ms 1 (.slice none 0 0) 0 [] W) (hst : st ≤ s.size) (hs : s.size ≤ 1048576) : Calls Tryf.prog 6 #[.pointer (some ⟨p, 0, none⟩), .int .i32 ((st : Nat) : Int), .int .i32 l, .bool b] W (MkIs19 p k mu he ms un B W) := by
  cases b
  · exact mark6_false F s p k mu he ms un st l B W hB hF hT hP H hst hs
  · exact mark6_true F s p k mu he ms un st l B W hB hF hT hP H hst hs
def Walk (w : World) (e : Ending) (w' : World) : Prop := e = .returned (.bool true) ∧ Below w.heap.size w w'
theorem walkL (un : Int) (s : ByteArray) (sti l : Int) (b : Bool) (w : World) (hl : 1048576 < (s.size : Int)) : Calls Tryf.prog 3 #[.int .u64 un, .string s, .int .i32 sti, .int .i32 l, .bool b] w (Walk w) := by
  go_enter Tryf.func3, Tryf.ntmps3
  go_wp2_with fail
  refine (zz4 un s sti l b w).mono ?_
  rintro e0 w0 ⟨r, rfl, rfl⟩
  cases r with
  | false =>
    go_wp2_with fail
    go_ret
    exact ⟨rfl, Below.refl _ _⟩
  | true =>
    go_wp2_with fail
    go_ret
    exact ⟨rfl, Below.refl _ _⟩
theorem walkS (un : Int) (s : ByteArray) (sti l : Int) (b : Bool) (w : World) (hl : ¬ 1048576 < (s.size : Int)) (ho : sti < 0) : Calls Tryf.prog 3 #[.int .u64 un, .string s, .int .i32 sti, .int .i32 l, .bool b] w (Walk w) := by
  go_enter Tryf.func3, Tryf.ntmps3
  go_wp2_with fail
  refine (zz4 un s sti l b w).mono ?_
  rintro e0 w0 ⟨r, rfl, rfl⟩
  cases r with
  | false =>
    go_wp2_with fail
    go_ret
    exact ⟨rfl, Below.refl _ _⟩
  | true =>
    go_wp2_with fail
    go_ret
    exact ⟨rfl, Below.refl _ _⟩
theorem walkG (un : Int) (s : ByteArray) (st : Nat) (l : Int) (b : Bool) (w : World) (hl : ¬ 1048576 < (s.size : Int)) (ho : (s.size : Int) < (st : Int)) (hi : (st : Int) ≤ 2147483647) : Calls Tryf.prog 3 #[.int .u64 un, .string s, .int .i32 (st : Int), .int .i32 l, .bool b] w (Walk w) := by
  have ho2 : ¬ (st : Int) < 0 := by omega
  go_enter Tryf.func3, Tryf.ntmps3
  go_wp2_with fail
  refine (zz4 un s st l b w).mono ?_
  rintro e0 w0 ⟨r, rfl, rfl⟩
  cases r with
  | false =>
    go_wp2_with fail
    go_ret
    exact ⟨rfl, Below.refl _ _⟩
  | true =>
    go_wp2_with fail
    go_ret
    exact ⟨rfl, Below.refl _ _⟩
set_option maxHeartbeats 4000000 in
theorem walkM (F : Interp) (un : Int) (s : ByteArray) (st : Nat) (l : Int) (b : Bool) (w : World) (hF : F.answers w.tape) (hT : TB w.heap.size w) (hl : ¬ 1048576 < (s.size : Int)) (ho : ¬ (s.size : Int) < (st : Int)) : Calls Tryf.prog 3 #[.int .u64 un, .string s, .int .i32 (st : Int), .int .i32 l, .bool b] w (Walk w) := by
  have HF := Lib.hid (And.intro hF hT)
  have ho2 : ¬ (st : Int) < 0 := by omega
  clear hF hT
  go_enter Tryf.func3, Tryf.ntmps3
  go_wp2_with fail
  refine (zz4 un s st l b w).mono ?_
  rintro e0 w0 ⟨r, rfl, rfl⟩
  cases r with
  | false =>
    go_wp2_with fail
    go_ret
    exact ⟨rfl, Below.refl _ _⟩
  | true =>
    go_wp2_with fail
    refine (newpar5 w w.heap.size (Nat.le_refl _) un s).mono ?_
    rintro e1 w1 ⟨p, k, mu, he, ms, rfl, l1, p1, hB, b1⟩
    have H1 := Lib.hid (And.intro l1 (And.intro p1 b1))
    clear l1 p1 b1
    go_wp2_with fail
    refine (mark6 F s p k mu he ms un st l b w.heap.size w1 hB (H1.out.2.2.tape ▸ HF.out.1) (HF.out.2.below H1.out.2.2) H1.out.2.1 H1.out.1 (by omega) (by omega)).mono ?_
    rintro e2 w2 ⟨⟨g, rfl, hr⟩, p2, b2⟩
    rcases hr with ⟨rfl, l2⟩ | ⟨rfl, v2, lg, tx, l2⟩
    · have H2 := Lib.hid (And.intro l2 (And.intro p2 (H1.out.2.2.trans b2)))
      clear l2 p2 b2
      go_wp2_with fail
      refine (msgs7 w.heap.size p k mu he ms 0 un _ _ w2 H2.out.1 H2.out.2.1 (fun W1 h => done0 w.heap.size k mu he ms 1 W1 h)).mono ?_
      rintro e3 w3 ⟨rfl, l3, b3, k3⟩
      have H3 := Lib.hid (H2.out.2.2.trans b3)
      clear l3 b3 k3
      go_wp2_with fail
      go_ret
      exact ⟨rfl, H3.out⟩
    · have H2 := Lib.hid (And.intro l2 (And.intro p2 (H1.out.2.2.trans b2)))
      clear l2 p2 b2
      go_wp2_with fail
      refine (msgs7 w.heap.size p k mu he ms 1 un v2 _ w2 H2.out.1 H2.out.2.1 (fun W1 h => done1 w.heap.size k mu he ms 1 v2 _ W1 h)).mono ?_
      rintro e3 w3 ⟨rfl, l3, b3, k3⟩
      obtain ⟨g3, c3, rfl⟩ := own_succ l3.own
      have q3 : w3.cell? ⟨g3, 3, none⟩ = some (.pointer (some ⟨lg, 0, none⟩)) := l3.own.cellAt 3 (by omega)
      have q6 : w3.cell? ⟨g3, 6, none⟩ = some (.int .u8 0) := l3.own.cellAt 6 (by omega)
      have H3 := Lib.hid (H2.out.2.2.trans b3)
      clear l3 b3 k3
      go_wp2_with fail
      go_ret
      exact ⟨rfl, H3.out⟩
theorem walk (F : Interp) (un : Int) (s : ByteArray) (sti l : Int) (b : Bool) (w : World) (hF : F.answers w.tape) (hT : TB w.heap.size w) (hi : sti ≤ 2147483647) : Calls Tryf.prog 3 #[.int .u64 un, .string s, .int .i32 sti, .int .i32 l, .bool b] w (Walk w) := by
  by_cases hl : 1048576 < (s.size : Int)
  · exact walkL un s sti l b w hl
  by_cases h0 : sti < 0
  · exact walkS un s sti l b w hl h0
  obtain ⟨st, rfl⟩ := Int.eq_ofNat_of_zero_le (by omega : 0 ≤ sti)
  by_cases ho : (s.size : Int) < (st : Int)
  · exact walkG un s st l b w hl ho hi
  · exact walkM F un s st l b w hF hT hl ho

end Go.Proofs.YtidicogmfpfibabFmt.fnMarkAsyncFnLogsExactlyWhenRefused
