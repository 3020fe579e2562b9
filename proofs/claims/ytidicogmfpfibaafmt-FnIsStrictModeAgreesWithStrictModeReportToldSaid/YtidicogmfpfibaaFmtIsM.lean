import Derived.Test.YtidicogmfpfibaaFmtKit
import Derived.Test.YtidicogmfpfibaaFmtIsK
namespace Go.Proofs.YtidicogmfpfibaaFmt
open Go.ChangeShapes Go.WideShapes Go.ChangeAt Go.RowKit
set_option linter.unusedVariables false
set_option maxRecDepth 100000
set_option maxHeartbeats 2000000

open Go.MuLone Go.Extern.Stop Go.Stop Go.Extern
theorem zz4 (a b c : Int) (x : ByteArray) (W : World) : Calls Tryf.prog 4 #[.int .u8 a, .int .u8 b, .int .u8 c, .string x] W fun e W' => ∃ r, e = .returned (.bool r) ∧ W = W' := by
  go_enter Tryf.func4, Tryf.ntmps4
  go_wp2 <;> (go_ret; first | exact ⟨_, rfl, rfl⟩ | exact rfl)
theorem kind5t (kd : Int) (hk : kd = 0 ∨ kd = 1 ∨ kd = 2 ∨ kd = 3 ∨ kd = 4 ∨ kd = 5) (W : World) : Calls Tryf.prog 5 #[.int .u8 kd] W fun e W' => e = .returned (.bool true) ∧ W' = W := by
  rcases hk with rfl | rfl | rfl | rfl | rfl | rfl <;>
  · go_enter Tryf.func5, Tryf.ntmps5
    go_wp2
    go_ret
    exact ⟨rfl, rfl⟩
theorem kind5f (kd : Int) (h0 : kd ≠ 0) (h1 : kd ≠ 1) (h2 : kd ≠ 2) (h3 : kd ≠ 3) (h4 : kd ≠ 4) (h5 : kd ≠ 5) (W : World) : Calls Tryf.prog 5 #[.int .u8 kd] W fun e W' => e = .returned (.bool false) ∧ W' = W := by
  have b0 : (kd == 0) = false := beq_false_of_ne h0
  have b1 : (kd == 1) = false := beq_false_of_ne h1
  have b2 : (kd == 2) = false := beq_false_of_ne h2
  have b3 : (kd == 3) = false := beq_false_of_ne h3
  have b4 : (kd == 4) = false := beq_false_of_ne h4
  have b5 : (kd == 5) = false := beq_false_of_ne h5
  go_enter Tryf.func5, Tryf.ntmps5
  go_wp2
  go_ret
  exact ⟨by first | rfl | simp [b5, h5], rfl⟩
theorem form6t (fm : Int) (hk : fm = 0 ∨ fm = 1 ∨ fm = 2 ∨ fm = 3) (W : World) : Calls Tryf.prog 6 #[.int .u8 fm] W fun e W' => e = .returned (.bool true) ∧ W' = W := by
  rcases hk with rfl | rfl | rfl | rfl <;>
  · go_enter Tryf.func6, Tryf.ntmps6
    go_wp2
    go_ret
    exact ⟨rfl, rfl⟩
theorem form6f (fm : Int) (h0 : fm ≠ 0) (h1 : fm ≠ 1) (h2 : fm ≠ 2) (h3 : fm ≠ 3) (W : World) : Calls Tryf.prog 6 #[.int .u8 fm] W fun e W' => e = .returned (.bool false) ∧ W' = W := by
  have b0 : (fm == 0) = false := beq_false_of_ne h0
  have b1 : (fm == 1) = false := beq_false_of_ne h1
  have b2 : (fm == 2) = false := beq_false_of_ne h2
  have b3 : (fm == 3) = false := beq_false_of_ne h3
  go_enter Tryf.func6, Tryf.ntmps6
  go_wp2
  go_ret
  exact ⟨by first | rfl | simp [b3, h3], rfl⟩
theorem strict8 (kd fm : Int) (W : World) : Calls Tryf.prog 8 #[.int .u8 kd, .int .u8 fm] W fun e W' => e = .returned (.bool (kd != 0)) ∧ Below W.heap.size W W' := by
  go_enter Tryf.func8, Tryf.ntmps8
  go_wp2_with fail
  refine (newpar9 W W.heap.size (Nat.le_refl _) fm kd).mono ?_
  rintro e1 w1 ⟨p, k, mu, he, ms, sc, ts, rfl, l1, p1, hB, b1⟩
  have H1 := Lib.hid (And.intro p1 b1)
  clear l1 p1 b1
  go_wp2_with fail
  refine (strict11 p k mu he ms sc ts fm kd w1 H1.out.1).mono ?_
  rintro e2 w2 ⟨rfl, rfl⟩
  go_wp2_with fail
  go_ret
  exact ⟨rfl, H1.out.2⟩
theorem ps_done {p k mu he ms sc ts : Nat} {fm kd : Int} {W : World} (h : PS p k mu he ms sc ts fm kd W) : W.cell? ⟨p, 54, none⟩ = some (.func (Fn.func 24) #[] #[.pointer (some ⟨mu, 0, none⟩), .pointer (some ⟨ms, 0, none⟩)]) ∧ p < W.heap.size := by
  obtain ⟨cs, b, r, h1, h2, h3, -⟩ := h
  exact ⟨r.cellv (h3.get 3 rfl), r.lt⟩

end Go.Proofs.YtidicogmfpfibaaFmt
