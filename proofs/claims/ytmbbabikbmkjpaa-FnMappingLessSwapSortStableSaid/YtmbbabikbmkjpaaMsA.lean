import Derived.Test.YtmbbabikbmkjpaaKit
import Derived.Test.YtmbbabikbmkjpaaRec
namespace Go.Proofs.Ytmbbabikbmkjpaa.fnMappingLessSwapSortStable
open Go.ChangeShapes Go.WideShapes Go.ChangeAt Go.RowKit
set_option linter.unusedVariables false
set_option maxRecDepth 100000
set_option maxHeartbeats 2000000

theorem info_ci : (Try.prog.info? 21).map (fun i => (i.zero, i.size, i.bytes)) = some (some (.int .i32 0), 1, 4) := by kernel_rfl

theorem ci_nil (w : World) : Calls Try.prog 13 #[.slice none 0 0] w fun e w' => e = .returned (.slice none 0 0) ∧ w = w' := by
  have hnil := fun W => Lib.run_eql_slice_nil (P := Try.prog) W 23 21 none 0 0 0 0 Try.underlying23
  go_enter Try.func13, Try.ntmps13
  go_wp2
  go_ret
  exact ⟨rfl, rfl⟩

theorem ci (x : Addr) (len cap : Nat) (zs : List Int) (w : World) (hn : len ≤ 1048576) (hcell : ∀ i, i < len → w.cell? (x.add i) = some (.int .i32 (zs.getD i 0))) :
    Calls Try.prog 13 #[.slice (some x) len cap] w fun e w' => e = .returned (.slice (some ⟨w.heap.size, 0, none⟩) len len) ∧ RowUpTo w' w.heap.size 21 len len (fun i => .int .i32 (zs.getD i 0)) ∧ Below w.heap.size w w' := by
  obtain ⟨i0, hi, hz0, hz1, hz2⟩ := info_parts info_ci
  have hnil := fun W => Lib.run_eql_slice_nil (P := Try.prog) W 23 21 (some x) len cap 0 0 Try.underlying23
  have HC := Lib.hid hcell
  clear hcell
  go_enter Try.func13, Try.ntmps13
  go_wp2_with (at_make; refine wpList_make_full _ rfl _ _ 23 rfl w.heap.size 21 i0 _ 1 Try.underlying23 hi hz0 hz1 .i64 .i64 _ _ len rfl rfl rfl rfl (by rw [hz2]; omega) (by unfold maxLen; omega) (Nat.le_refl _) ?_; intro w1 hown hgrow)
  clear hi hz0 hz1 hz2 i0 hnil
  obtain ⟨cs0, hr0, hs0, _⟩ := RowAt.of_owns hown
  have hb1 : Below w.heap.size w w1 := (Below.refl _ _).grown hgrow (Nat.le_refl _) (fun k hk => by cases hk)
  have hB1 : RowUpTo w1 w.heap.size 21 len 0 (fun i => .int .i32 (zs.getD i 0)) := RowUpTo.start hr0 (by omega) _
  clear hown hgrow hr0 hs0
  go_loopw [4] (fun v4 wr => ∃ k : Nat, k ≤ len ∧ v4 = .int .i64 k ∧ RowUpTo wr w.heap.size 21 len k (fun i => .int .i32 (zs.getD i 0)) ∧ Below w.heap.size w wr) (fun v4 _ => len - (intOf v4).toNat)
  case atStart => exact ⟨0, Nat.zero_le _, rfl, hB1, hb1⟩
  case round =>
    obtain ⟨k, hk, rfl, hB, hb⟩ := hrel
    have HB := Lib.hid hB
    clear hB hB1 hb1
    by_cases hlt : k < len
    · obtain ⟨z, hz⟩ : ∃ z, zs.getD k 0 = z := ⟨_, rfl⟩
      have hc := later (HC.out k hlt) hb
      rw [hz] at hc
      obtain ⟨x0, q0⟩ := HB.out.old hlt
      have q2 := HB.out.frozen k
      have HS : Hid (RowUpTo (wr.setCell ⟨w.heap.size, k, none⟩ (.int .i32 z)) w.heap.size 21 len (k + 1) (fun i => .int .i32 (zs.getD i 0))) := by
        have := HB.out.step hlt
        rw [hz] at this
        exact this
      clear hz
      go_wp2
      go_roundw
      case rel => exact ⟨k + 1, by omega, by go_num, HS.out, by go_grown⟩
      case measure => simp [intOf]; omega
    · obtain rfl : k = len := by omega
      go_wp2
      go_ret
      exact ⟨rfl, HB.out, hb⟩

def SomeB (w : World) (e : Ending) (w' : World) : Prop := ∃ b, e = .returned (.bool b) ∧ w = w'
theorem zb12 (a0 a1 : Option Addr) (n0 n1 c0 c1 : Nat) (w : World) (h0 : n0 ≤ 9223372036854775807) (h1 : n1 ≤ 9223372036854775807) :
    Calls Try.prog 12 #[.slice a0 n0 c0, .slice a1 n1 c1] w (SomeB w) := by
  go_enter Try.func12, Try.ntmps12
  go_wp2
  all_goals
    go_ret
    exact ⟨_, rfl, rfl⟩
/-- The flipped bits of k. -/
def fb (k : Nat) : Int := bits BinOp.xor IntKind.u32 IntKind.u32.max (k : Int)
theorem idx24 (k : Nat) (w : World) (hk : k ≤ 4096) : Calls Try.prog 24 #[.int .u32 k] w fun e w' => e = .returned (.agg #[.int .u32 (fb k)]) ∧ Below w.heap.size w w' := by
  go_enter Try.func24, Try.ntmps24
  go_wp2_with fail
  go_returns
  exact ⟨rfl, by go_grown⟩
def Elm (l : Int) (k : Nat) (w : World) (e : Ending) (w' : World) : Prop := ∃ x : Int, e = .returned (.agg #[.int .i32 l, .int .i32 x, .int .i32 k, .int .i32 (k + 1), .int .i32 (-k), .int .u32 (fb k)]) ∧ Below w.heap.size w w'
theorem elem14 (l : Int) (k : Nat) (w : World) (hk : k ≤ 4096) (hl : -2147483648 ≤ l ∧ l ≤ 2147483647) : Calls Try.prog 14 #[.int .i32 l, .int .i64 k] w (Elm l k w) := by
  obtain ⟨l1, l2⟩ := hl
  obtain ⟨F, hF⟩ : ∃ F, fb k = F := ⟨_, rfl⟩
  have HFF := Lib.hid hF
  have hE : ∀ e w', (∃ x : Int, e = Ending.returned (.agg #[.int .i32 l, .int .i32 x, .int .i32 k, .int .i32 (k + 1), .int .i32 (-k), .int .u32 F]) ∧ Below w.heap.size w w') → Elm l k w e w' := fun e w' h => by rw [← hF] at h; exact h
  have HE := Lib.hid hE
  clear hF hE
  go_enter Try.func14, Try.ntmps14
  go_wp2_with fail
  refine (idx24 k _ hk).mono ?_
  rintro e w1 ⟨rfl, hb1⟩
  rw [HFF.out]
  have hr : RowAt w1 w.heap.size #[.int .i32 0, .int .i32 0, .int .i32 0, .int .i32 0, .int .i32 0, .int .u32 0] 45 := (RowAt.new w _ _).below hb1 (by go_size)
  have c0 := hr.cellv (j := 0) (v := .int .i32 0) rfl
  have c1 := hr.cellv (j := 1) (v := .int .i32 0) rfl
  have c2 := hr.cellv (j := 2) (v := .int .i32 0) rfl
  have c3 := hr.cellv (j := 3) (v := .int .i32 0) rfl
  have c4 := hr.cellv (j := 4) (v := .int .i32 0) rfl
  have c5 := hr.cellv (j := 5) (v := .int .u32 0) rfl
  have f0 := hr.frozen
  have hlt := hr.lt
  have HR := Lib.hid hr
  have HB : Hid (Below w.heap.size w w1) := Below.trans (by go_grown) (hb1.mono (by go_size))
  clear hb1 hr
  go_wp2_with fail
  have q0 : (w1.setCell ⟨w.heap.size, 0, none⟩ (.int .i32 l)).cell? ⟨w.heap.size, 0, none⟩ = some (.int .i32 l) := (HR.out.set 0 (.int .i32 l)).cellv (j := 0) rfl
  have q1 : ((w1.setCell ⟨w.heap.size, 0, none⟩ (.int .i32 l)).setCell ⟨w.heap.size, 1, none⟩ (.int .i32 (bits BinOp.xor IntKind.i32 l k))).cell? ⟨w.heap.size, 1, none⟩ = some (.int .i32 (bits BinOp.xor IntKind.i32 l k)) := ((HR.out.set 0 (.int .i32 l)).set 1 (.int .i32 (bits BinOp.xor IntKind.i32 l k))).cellv (j := 1) rfl
  have q2 : (((w1.setCell ⟨w.heap.size, 0, none⟩ (.int .i32 l)).setCell ⟨w.heap.size, 1, none⟩ (.int .i32 (bits BinOp.xor IntKind.i32 l k))).setCell ⟨w.heap.size, 2, none⟩ (.int .i32 k)).cell? ⟨w.heap.size, 2, none⟩ = some (.int .i32 k) := (((HR.out.set 0 (.int .i32 l)).set 1 (.int .i32 (bits BinOp.xor IntKind.i32 l k))).set 2 (.int .i32 k)).cellv (j := 2) rfl
  have q3 : ((((w1.setCell ⟨w.heap.size, 0, none⟩ (.int .i32 l)).setCell ⟨w.heap.size, 1, none⟩ (.int .i32 (bits BinOp.xor IntKind.i32 l k))).setCell ⟨w.heap.size, 2, none⟩ (.int .i32 k)).setCell ⟨w.heap.size, 3, none⟩ (.int .i32 (k + 1))).cell? ⟨w.heap.size, 3, none⟩ = some (.int .i32 (k + 1)) := ((((HR.out.set 0 (.int .i32 l)).set 1 (.int .i32 (bits BinOp.xor IntKind.i32 l k))).set 2 (.int .i32 k)).set 3 (.int .i32 (k + 1))).cellv (j := 3) rfl
  have q4 : (((((w1.setCell ⟨w.heap.size, 0, none⟩ (.int .i32 l)).setCell ⟨w.heap.size, 1, none⟩ (.int .i32 (bits BinOp.xor IntKind.i32 l k))).setCell ⟨w.heap.size, 2, none⟩ (.int .i32 k)).setCell ⟨w.heap.size, 3, none⟩ (.int .i32 (k + 1))).setCell ⟨w.heap.size, 4, none⟩ (.int .i32 (-k))).cell? ⟨w.heap.size, 4, none⟩ = some (.int .i32 (-k)) := (((((HR.out.set 0 (.int .i32 l)).set 1 (.int .i32 (bits BinOp.xor IntKind.i32 l k))).set 2 (.int .i32 k)).set 3 (.int .i32 (k + 1))).set 4 (.int .i32 (-k))).cellv (j := 4) rfl
  have q5 : ((((((w1.setCell ⟨w.heap.size, 0, none⟩ (.int .i32 l)).setCell ⟨w.heap.size, 1, none⟩ (.int .i32 (bits BinOp.xor IntKind.i32 l k))).setCell ⟨w.heap.size, 2, none⟩ (.int .i32 k)).setCell ⟨w.heap.size, 3, none⟩ (.int .i32 (k + 1))).setCell ⟨w.heap.size, 4, none⟩ (.int .i32 (-k))).setCell ⟨w.heap.size, 5, none⟩ (.int .u32 F)).cell? ⟨w.heap.size, 5, none⟩ = some (.int .u32 F) := ((((((HR.out.set 0 (.int .i32 l)).set 1 (.int .i32 (bits BinOp.xor IntKind.i32 l k))).set 2 (.int .i32 k)).set 3 (.int .i32 (k + 1))).set 4 (.int .i32 (-k))).set 5 (.int .u32 F)).cellv (j := 5) rfl
  refine bodyPost_ret (v := .agg #[.int .i32 l, .int .i32 (bits BinOp.xor IntKind.i32 l k), .int .i32 k, .int .i32 (k + 1), .int .i32 (-k), .int .u32 F]) (by simp [results, Try.results14, go_sem, q0, q1, q2, q3, q4, q5]) rfl (HE.out _ _ ⟨_, rfl, ((((((HB.out.setCell (Nat.le_refl _) _).setCell (Nat.le_refl _) _).setCell (Nat.le_refl _) _).setCell (Nat.le_refl _) _).setCell (Nat.le_refl _) _).setCell (Nat.le_refl _) _)⟩)
theorem key17 (l c : Int) (w : World) (hl : -2147483648 ≤ l ∧ l ≤ 2147483647) (hc : -2147483648 ≤ c ∧ c ≤ 2147483647) : Calls Try.prog 17 #[.int .i32 l, .int .i32 c] w fun e w' => e = .returned (.int .i64 (l * 4294967296 + (c + 2147483648))) ∧ w = w' := by
  obtain ⟨l1, l2⟩ := hl
  obtain ⟨c1, c2⟩ := hc
  go_enter Try.func17, Try.ntmps17
  go_wp2_with fail
  go_ret
  exact ⟨rfl, rfl⟩

/-- Less, on what stands in the row. -/
def lessB (l1 c1 l2 c2 : Int) : Bool := decide (l1 < l2) || (l1 == l2 && decide (c1 ≤ c2))
def LessPost (B : Bool) (w : World) (e : Ending) (w' : World) : Prop := e = .returned (.bool B) ∧ Below w.heap.size w w'
theorem less25 (R n c i j : Nat) (l1 c1 l2 c2 x2 x3 x4 x5 y2 y3 y4 y5 : Int) (w : World) (hi : i < n) (hj : j < n) (hn : n ≤ 4096)
    (i0 : w.cell? ⟨R, i * 6, none⟩ = some (.int .i32 l1)) (i1 : w.cell? ⟨R, i * 6 + 1, none⟩ = some (.int .i32 c1)) (i2 : w.cell? ⟨R, i * 6 + 2, none⟩ = some (.int .i32 x2)) (i3 : w.cell? ⟨R, i * 6 + 3, none⟩ = some (.int .i32 x3)) (i4 : w.cell? ⟨R, i * 6 + 4, none⟩ = some (.int .i32 x4)) (i5 : w.cell? ⟨R, i * 6 + 5, none⟩ = some (.int .u32 x5))
    (j0 : w.cell? ⟨R, j * 6, none⟩ = some (.int .i32 l2)) (j1 : w.cell? ⟨R, j * 6 + 1, none⟩ = some (.int .i32 c2)) (j2 : w.cell? ⟨R, j * 6 + 2, none⟩ = some (.int .i32 y2)) (j3 : w.cell? ⟨R, j * 6 + 3, none⟩ = some (.int .i32 y3)) (j4 : w.cell? ⟨R, j * 6 + 4, none⟩ = some (.int .i32 y4)) (j5 : w.cell? ⟨R, j * 6 + 5, none⟩ = some (.int .u32 y5)) :
    Calls Try.prog 25 #[.slice (some ⟨R, 0, none⟩) n c, .int .i64 i, .int .i64 j] w (LessPost (lessB l1 c1 l2 c2) w) := by
  have b1 : (i : Int) < (n : Int) := by omega
  have b2 : (j : Int) < (n : Int) := by omega
  have hl := cell_lt i0
  have hl1 : R < w.heap.size + 1 := by have := cell_lt i0; show R < _; simp at this; omega
  go_enter Try.func25, Try.ntmps25
  go_wp2_with fail
  all_goals
    go_ret
    refine ⟨ret_bool ?_, by go_grown⟩
    first
      | (simp [lessB]; done)
      | (simp [lessB]; omega)
      | (simp [lessB, *]; done)
      | (simp [lessB, *]; omega)

end Go.Proofs.Ytmbbabikbmkjpaa.fnMappingLessSwapSortStable
