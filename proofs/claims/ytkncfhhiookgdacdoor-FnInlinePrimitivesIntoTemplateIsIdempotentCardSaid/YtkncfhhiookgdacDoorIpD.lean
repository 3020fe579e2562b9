import Derived.Test.YtkncfhhiookgdacDoorKit
import Derived.Test.YtkncfhhiookgdacDoorIpA
import Derived.Test.YtkncfhhiookgdacDoorAs
import Derived.Test.YtkncfhhiookgdacDoorIpB
import Derived.Deep.RegionLaw
namespace Go.Proofs.YtkncfhhiookgdacDoor
open Go.ChangeShapes Go.WideShapes Go.ChangeAt Go.RowKit
set_option linter.unusedVariables false
set_option maxRecDepth 100000
set_option maxHeartbeats 2000000

open Go.Extern
theorem add0 (g i : Nat) : (⟨g, 0, none⟩ : Addr).add i = ⟨g, i, none⟩ := by
  cases i <;> simp [Addr.add]
/-- Two slices hold the same numbers. -/
def SameU (w : World) (a b : Option Addr) (n : Nat) : Prop := ∀ i, i < n → ∃ x y k, a = some x ∧ b = some y ∧ w.cell? (x.add i) = some (.int .u16 k) ∧ w.cell? (y.add i) = some (.int .u16 k)
theorem eq12 (a b : Option Addr) (n c d : Nat) (w : World) (hn : n ≤ 1099511627776) (h : SameU w a b n) : Calls Tryd.prog 12 #[.slice a n c, .slice b n d] w fun e w' => e = .returned (.bool true) ∧ ∃ q, w' = w.drewN q := by
  have H := Lib.hid h
  clear h
  go_enter Tryd.func12, Tryd.ntmps12
  go_wp2_with fail
  go_loopw [5] (fun v5 wr => ∃ k q : Nat, k ≤ n ∧ v5 = .int .i64 k ∧ wr = w.drewN q) (fun v5 _ => n - (intOf v5).toNat)
  case atStart => exact ⟨0, 0, Nat.zero_le _, rfl, rfl⟩
  case round =>
    obtain ⟨k, q, hk, rfl, rfl⟩ := hrel
    by_cases hlt : k < n
    · obtain ⟨x, y, kk, rfl, rfl, h1, h2⟩ := H.out k hlt
      go_wp2_with fail
      go_quiet (fail)
      go_wp2_with fail
      go_roundw
      case rel => exact ⟨k + 1, _, by omega, by go_num, rfl⟩
      case measure => simp [intOf]; omega
    · obtain rfl : k = n := by omega
      go_wp2_with fail
      go_ret
      exact ⟨rfl, _, rfl⟩
theorem clone_nil (w : World) : Calls Tryd.prog 6 #[.slice none 0 0] w fun e w' => e = .returned (.slice none 0 0) ∧ w = w' := by
  have hnil := fun W => Lib.run_eql_slice_nil (P := Tryd.prog) W 22 48 none 0 0 0 0 Tryd.underlying22
  go_enter Tryd.func6, Tryd.ntmps6
  go_wp2
  go_ret
  exact ⟨rfl, rfl⟩
theorem clone6 (x : Addr) (len cap : Nat) (f : Nat → Int) (w : World) (hn : len ≤ 1099511627776) (hcell : ∀ i, i < len → w.cell? (x.add i) = some (.int .u16 (f i))) :
    Calls Tryd.prog 6 #[.slice (some x) len cap] w fun e w' => e = .returned (.slice (some ⟨w.heap.size, 0, none⟩) len len) ∧ RowUpTo w' w.heap.size 48 len len (fun i => .int .u16 (f i)) ∧ Below w.heap.size w w' := by
  obtain ⟨i0, hi, hz0, hz1, hz2⟩ := info_parts info48
  have hnil := fun W => Lib.run_eql_slice_nil (P := Tryd.prog) W 22 48 (some x) len cap 0 0 Tryd.underlying22
  have HC := Lib.hid hcell
  clear hcell
  go_enter Tryd.func6, Tryd.ntmps6
  go_wp2_with (at_make; refine wpList_make_full _ rfl _ _ 22 rfl w.heap.size 48 i0 _ 1 Tryd.underlying22 hi hz0 hz1 .i64 .i64 _ _ len rfl rfl rfl rfl (by rw [hz2]; omega) (by unfold maxLen; omega) (Nat.le_refl _) ?_; intro w1 hown hgrow)
  clear hi hz0 hz1 hz2 i0 hnil
  obtain ⟨cs0, hr0, hs0, _⟩ := RowAt.of_owns hown
  have hb1 : Below w.heap.size w w1 := (Below.refl _ _).grown hgrow (Nat.le_refl _) (fun k hk => by cases hk)
  have hB1 : RowUpTo w1 w.heap.size 48 len 0 (fun i => .int .u16 (f i)) := RowUpTo.start hr0 (by omega) _
  clear hown hgrow hr0 hs0
  go_loopw [4] (fun v4 wr => ∃ k : Nat, k ≤ len ∧ v4 = .int .i64 k ∧ RowUpTo wr w.heap.size 48 len k (fun i => .int .u16 (f i)) ∧ Below w.heap.size w wr) (fun v4 _ => len - (intOf v4).toNat)
  case atStart => exact ⟨0, Nat.zero_le _, rfl, hB1, hb1⟩
  case round =>
    obtain ⟨k, hk, rfl, hB, hb⟩ := hrel
    have HB := Lib.hid hB
    clear hB hB1 hb1
    by_cases hlt : k < len
    · obtain ⟨z, hz⟩ : ∃ z, f k = z := ⟨_, rfl⟩
      have hc := later (HC.out k hlt) hb
      rw [hz] at hc
      obtain ⟨x0, q0⟩ := HB.out.old hlt
      have q2 := HB.out.frozen k
      have HS : Hid (RowUpTo (wr.setCell ⟨w.heap.size, k, none⟩ (.int .u16 z)) w.heap.size 48 len (k + 1) (fun i => .int .u16 (f i))) := by
        have := HB.out.step hlt
        rw [hz] at this
        exact this
      clear hz
      go_wp2
      go_roundw
      case rel => exact ⟨k + 1, by omega, by go_num, HS.out, by go_grown⟩
      case measure => simp [intOf]; omega
    · obtain rfl : k = len := by omega
      go_wp2
      go_ret
      exact ⟨rfl, HB.out, hb⟩
theorem astmp9 (t : Nat) (loc : Int) (w : World) : Calls Tryd.prog 9 #[.agg #[.iface 28 (ptr t), .int .i32 loc]] w fun e w' => e = .returned (.tuple #[ptr t, .bool true]) ∧ Below w.heap.size w w' := by
  unfold ptr
  have bb := (Below.refl w.heap.size w).alloc (Nat.le_refl _) (.cells #[.iface 28 (.pointer (some ⟨t, 0, none⟩)), .int .i32 loc] 35)
  have HB := Lib.hid bb
  clear bb
  go_enter Tryd.func9, Tryd.ntmps9
  go_wp2_with fail
  go_ret2
  exact ⟨rfl, HB.out⟩
theorem astmp9s (s : Nat) (loc : Int) (w : World) : Calls Tryd.prog 9 #[.agg #[.iface 49 (ptr s), .int .i32 loc]] w fun e w' => e = .returned (.tuple #[.pointer none, .bool false]) ∧ Below w.heap.size w w' := by
  unfold ptr
  have bb := (Below.refl w.heap.size w).alloc (Nat.le_refl _) (.cells #[.iface 49 (.pointer (some ⟨s, 0, none⟩)), .int .i32 loc] 35)
  have HB := Lib.hid bb
  clear bb
  go_enter Tryd.func9, Tryd.ntmps9
  go_wp2_with fail
  go_ret2
  exact ⟨rfl, HB.out⟩
theorem asstr10 (s : Nat) (loc : Int) (o : Option Addr) (n c : Nat) (b : Bool) (w : World) (h0 : w.cell? ⟨s, 0, none⟩ = some (.slice o n c)) (h2 : w.cell? ⟨s, 2, none⟩ = some (.bool b)) : Calls Tryd.prog 10 #[.agg #[.iface 49 (ptr s), .int .i32 loc]] w fun e w' => e = .returned (.tuple #[.slice o n c, .bool b, .bool true]) ∧ Below w.heap.size w w' := by
  unfold ptr
  have bb := (Below.refl w.heap.size w).alloc (Nat.le_refl _) (.cells #[.iface 49 (.pointer (some ⟨s, 0, none⟩)), .int .i32 loc] 35)
  have HB := Lib.hid bb
  have lt := cell_lt h0
  clear bb
  go_enter Tryd.func10, Tryd.ntmps10
  go_wp2_with fail
  go_quiet (fail)
  go_wp2_with fail
  go_ret3
  exact ⟨rfl, below_drewN HB.out _⟩

end Go.Proofs.YtkncfhhiookgdacDoor
