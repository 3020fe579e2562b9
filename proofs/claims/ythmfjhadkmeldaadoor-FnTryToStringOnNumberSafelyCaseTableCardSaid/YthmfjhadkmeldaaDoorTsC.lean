import Derived.Test.YthmfjhadkmeldaaDoorKit
import Derived.Test.YthmfjhadkmeldaaDoorTsB
namespace Go.Proofs.YthmfjhadkmeldaaDoor
open Go.ChangeShapes Go.WideShapes Go.ChangeAt Go.RowKit
set_option linter.unusedVariables false
set_option maxRecDepth 100000
set_option maxHeartbeats 2000000

open Go.Extern
/-- The text of an integer in a base, by strconv. -/
def FmtIs (t : Int) (b : Nat) (w : World) (e : Ending) (w' : World) : Prop := e = .returned (.string ⟨(numT t b).toArray⟩) ∧ Below w.heap.size w w'
def TzAt (w : World) : Prop := w.cell? ⟨3, 1, none⟩ = some (.int .u8 1) ∧ w.cell? ⟨3, 3, none⟩ = some (.int .u8 2) ∧ w.cell? ⟨3, 7, none⟩ = some (.int .u8 3) ∧ w.cell? ⟨3, 15, none⟩ = some (.int .u8 4) ∧ w.cell? ⟨3, 31, none⟩ = some (.int .u8 5)
theorem fb15 (n b : Nat) (neg : Bool) (x : Int) (w : World) (hx : (neg = false ∧ x = n) ∨ (neg = true ∧ 0 < n ∧ x = 18446744073709551616 - (n : Int))) (h1 : n < 4294967296) (hb : 2 ≤ b) (hb2 : b ≤ 36) (h10 : b ≠ 10) (hT : TzAt w) :
    Calls Tryd.prog 15 #[.slice none 0 0, .int .u64 x, .int .i64 (b : Int), .bool neg, .bool false] w fun e w' => e = .returned (.tuple #[.slice none 0 0, .string ⟨(if neg then 45 :: digB b n else digB b n).toArray⟩]) ∧ Below w.heap.size w w' := by
  have hT3 : 3 < w.heap.size := cell_lt hT.1
  obtain ⟨t1, t2, t3, t4, t5⟩ := hT
  by_cases c1 : b = 2
  · subst c1
    rcases hx with ⟨rfl, rfl⟩ | ⟨rfl, h0, rfl⟩
    · exact fbp1p n w h1 t1 hT3
    · exact fbp1n n w h0 h1 t1 hT3
  by_cases c2 : b = 4
  · subst c2
    rcases hx with ⟨rfl, rfl⟩ | ⟨rfl, h0, rfl⟩
    · exact fbp2p n w h1 t2 hT3
    · exact fbp2n n w h0 h1 t2 hT3
  by_cases c3 : b = 8
  · subst c3
    rcases hx with ⟨rfl, rfl⟩ | ⟨rfl, h0, rfl⟩
    · exact fbp3p n w h1 t3 hT3
    · exact fbp3n n w h0 h1 t3 hT3
  by_cases c4 : b = 16
  · subst c4
    rcases hx with ⟨rfl, rfl⟩ | ⟨rfl, h0, rfl⟩
    · exact fbp4p n w h1 t4 hT3
    · exact fbp4n n w h0 h1 t4 hT3
  by_cases c5 : b = 32
  · subst c5
    rcases hx with ⟨rfl, rfl⟩ | ⟨rfl, h0, rfl⟩
    · exact fbp5p n w h1 t5 hT3
    · exact fbp5n n w h0 h1 t5 hT3
  rcases hx with ⟨rfl, rfl⟩ | ⟨rfl, h0, rfl⟩
  · exact fbgp n w h1 b hb hb2 h10 ⟨c1, c2, c3, c4, c5⟩
  · exact fbgn n w h0 h1 b hb hb2 h10 ⟨c1, c2, c3, c4, c5⟩
theorem fi10 (t : Int) (b : Nat) (w : World) (h0 : -2147483648 ≤ t) (h1 : t ≤ 2147483647) (hb : 2 ≤ b) (hb2 : b ≤ 36) (h10 : b ≠ 10) (hT : TzAt w) : Calls Tryd.prog 10 #[.int .i64 t, .int .i64 (b : Int)] w (FmtIs t b w) := by
  have f10 : ((b : Int) == 10) = false := by simp; omega
  by_cases hn : t < 0
  · obtain ⟨n, rfl⟩ : ∃ n : Nat, t = -(n : Int) := ⟨t.natAbs, by omega⟩
    have hw : IntKind.u64.wrap (-(n : Int)) = 18446744073709551616 - (n : Int) := by rw [IntKind.wrap_u64]; omega
    have HC := Lib.hid (fb15 n b true (18446744073709551616 - (n : Int)) w (.inr ⟨rfl, by omega, rfl⟩) (by omega) hb hb2 h10 hT)
    clear hT
    have hn0 : 0 < n := by omega
    go_enter Tryd.func10, Tryd.ntmps10
    go_wp2_with fail
    refine HC.out.mono ?_
    rintro e w1 ⟨rfl, hb1⟩
    go_wp2_with fail
    go_ret
    refine ⟨?_, hb1⟩
    unfold numT
    rw [if_pos hn, show (-(n : Int)).natAbs = n by omega]
    rfl
  · obtain ⟨n, rfl⟩ : ∃ n : Nat, t = (n : Int) := ⟨t.natAbs, by omega⟩
    have HC := Lib.hid (fb15 n b false (n : Int) w (.inl ⟨rfl, rfl⟩) (by omega) hb hb2 h10 hT)
    clear hT
    go_enter Tryd.func10, Tryd.ntmps10
    go_wp2_with fail
    refine HC.out.mono ?_
    rintro e w1 ⟨rfl, hb1⟩
    go_wp2_with fail
    go_ret
    refine ⟨?_, hb1⟩
    unfold numT
    rw [if_neg (by omega), show ((n : Int)).natAbs = n by omega]
    rfl
theorem fi6 (t : Int) (b : Nat) (w : World) (h0 : -2147483648 ≤ t) (h1 : t ≤ 2147483647) (hb : 2 ≤ b) (hb2 : b ≤ 36) (h10 : b ≠ 10) (hT : TzAt w) : Calls Tryd.prog 6 #[.int .i64 t, .int .i64 (b : Int)] w (FmtIs t b w) := by
  have HC := Lib.hid (fi10 t b w h0 h1 hb hb2 h10 hT)
  clear hT
  go_enter Tryd.func6, Tryd.ntmps6
  go_wp2_with fail
  refine HC.out.mono ?_
  rintro e w1 ⟨rfl, hb1⟩
  go_wp2_with fail
  go_ret
  exact ⟨rfl, hb1⟩
theorem zz9 (t : Int) (b : Nat) (w : World) (h0 : -2147483648 ≤ t) (h1 : t ≤ 2147483647) (hb : 2 ≤ b) (hb2 : b ≤ 36) : Calls Tryd.prog 9 #[.int .i64 t, .int .i64 (b : Int)] w (FmtIs t b w) := by
  unfold FmtIs numT
  by_cases hz : t = 0
  · subst hz
    exact zz9zero b w
  by_cases hn : t < 0
  · obtain ⟨n, rfl⟩ : ∃ n : Nat, t = -(n : Int) := ⟨t.natAbs, by omega⟩
    rw [if_pos hn, show (-(n : Int)).natAbs = n by omega]
    exact zz9neg n b (by omega) (by omega) hb hb2 w
  · obtain ⟨n, rfl⟩ : ∃ n : Nat, t = (n : Int) := ⟨t.natAbs, by omega⟩
    rw [if_neg hn, show ((n : Int)).natAbs = n by omega]
    exact zz9pos n b (by omega) (by omega) hb hb2 w

end Go.Proofs.YthmfjhadkmeldaaDoor
