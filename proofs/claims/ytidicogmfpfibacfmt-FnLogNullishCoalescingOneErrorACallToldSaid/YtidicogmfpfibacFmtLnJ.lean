import Derived.Test.YtidicogmfpfibacFmtKit
import Derived.Test.YtidicogmfpfibacFmtLnI
namespace Go.Proofs.YtidicogmfpfibacFmt
open Go.ChangeShapes Go.WideShapes Go.ChangeAt Go.RowKit
set_option linter.unusedVariables false
set_option maxRecDepth 100000
set_option maxHeartbeats 2000000

open Go.MuLone Go.Extern.Stop Go.Stop Go.Extern
def NAdded (B k mu he ms : Nat) (n : Nat) (xs : List Value) (W : World) (e : Ending) (W' : World) : Prop := e = .returned (.tuple #[]) ∧ ∃ v g tx, LG B k mu he ms 0 v (n + 1) (xs ++ msgV (.slice (some ⟨g, 0, none⟩) 1 1) (.pointer none) tx) W' ∧ Kp W W' ∧ Below B W W'
set_option maxHeartbeats 4000000 in
theorem nullish9 (F : Interp) (p k mu he ms : Nat) (tk : Int) (x : ByteArray) (B : Nat) (v : Value) (n : Nat) (xs : List Value) (W : World) (hF : F.answers W.tape) (H : LG B k mu he ms 0 v n xs W) (hP : PL p k mu he ms tk W) (hn : n ≤ 100000) :
    Calls Tryf.prog 9 #[.pointer (some ⟨p, 0, none⟩), .string x] W (NAdded B k mu he ms n xs W) := by
  obtain ⟨cs, r, h1, h2, h3, h4, h5⟩ := hP
  have q5 := r.cellv (j := 270) (v := .int .u8 tk) h5
  have HH := Lib.hid (And.intro hF (And.intro H (And.intro r (And.intro h1 (And.intro h2 (And.intro h3 h4))))))
  clear r h1 h2 h3 h4 h5 hF H
  by_cases ht : tk = 48
  · subst ht
    go_enter Tryf.func9, Tryf.ntmps9
    go_wp2_with fail
    refine reg_conv rg9_3 (by kernel_rfl) ?_
    refine rgn9 (F := F) (cs := cs) (p := p) (k := k) (mu := mu) (he := he) (ms := ms) (tk := 48) (B := B) (v := v) (n := n) (xs := xs) ⟨(fun c a d v w h => by cases d <;> exact h), HH.out.1, HH.out.2.1, hn, ⟨HH.out.2.2.1, HH.out.2.2.2.1⟩, HH.out.2.2.2.2.1, HH.out.2.2.2.2.2.1, HH.out.2.2.2.2.2.2, ?_⟩
    intro g28 g42 g45 t29 t43 W' hA
    obtain ⟨_, v1, l1, k1, b1⟩ := hA
    have HE := Lib.hid (And.intro l1 (And.intro k1 b1))
    clear l1 k1 b1 q5
    go_wp2_with fail
    go_end0
    exact ⟨rfl, v1, g45, t29, HE.out⟩
  · have ht' : (tk == 48) = false := by simpa using ht
    go_enter Tryf.func9, Tryf.ntmps9
    go_wp2_with fail
    refine reg_conv rg9_3 (by kernel_rfl) ?_
    refine rgn9 (F := F) (cs := cs) (p := p) (k := k) (mu := mu) (he := he) (ms := ms) (tk := tk) (B := B) (v := v) (n := n) (xs := xs) ⟨(fun c a d v w h => by cases d <;> exact h), HH.out.1, HH.out.2.1, hn, ⟨HH.out.2.2.1, HH.out.2.2.2.1⟩, HH.out.2.2.2.2.1, HH.out.2.2.2.2.2.1, HH.out.2.2.2.2.2.2, ?_⟩
    intro g28 g42 g45 t29 t43 W' hA
    obtain ⟨_, v1, l1, k1, b1⟩ := hA
    have HE := Lib.hid (And.intro l1 (And.intro k1 b1))
    clear l1 k1 b1 q5
    go_wp2_with fail
    go_end0
    exact ⟨rfl, v1, g45, t29, HE.out⟩
theorem zz6 (F : Interp) (p k mu he ms : Nat) (tk : Int) (x : ByteArray) (B : Nat) (v : Value) (n : Nat) (xs : List Value) (W : World) (hF : F.answers W.tape) (H : LG B k mu he ms 0 v n xs W) (hP : PL p k mu he ms tk W) (hn : n ≤ 100000) :
    Calls Tryf.prog 6 #[.pointer (some ⟨p, 0, none⟩), .string x] W fun e W' => NAdded B k mu he ms n xs W e W' ∧ PL p k mu he ms tk W' := by
  have HH := Lib.hid (And.intro hF (And.intro H hP))
  clear hF H hP
  go_enter Tryf.func6, Tryf.ntmps6
  go_wp2_with fail
  refine (nullish9 F p k mu he ms tk x B v n xs W HH.out.1 HH.out.2.1 HH.out.2.2 hn).mono ?_
  rintro e1 w1 ⟨rfl, v1, g, tx, l1, k1, b1⟩
  have HE := Lib.hid (And.intro l1 (And.intro k1 b1))
  clear l1 k1 b1
  go_wp2_with fail
  go_end0
  exact ⟨⟨rfl, v1, g, tx, HE.out⟩, HH.out.2.2.kp HE.out.2.1⟩
theorem zz4 (x : ByteArray) (m : Int) (W : World) : Calls Tryf.prog 4 #[.string x, .int .u8 m] W fun e W' => ∃ b, e = .returned (.bool b) ∧ W = W' := by
  go_enter Tryf.func4, Tryf.ntmps4
  go_wp2 <;> (go_ret; first | exact ⟨_, rfl, rfl⟩ | exact rfl)

end Go.Proofs.YtidicogmfpfibacFmt
