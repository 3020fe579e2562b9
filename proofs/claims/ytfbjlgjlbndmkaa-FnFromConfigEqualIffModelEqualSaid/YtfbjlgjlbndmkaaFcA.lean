import Derived.Test.YtfbjlgjlbndmkaaKit
import Derived.Test.YtfbjlgjlbndmkaaRec
namespace Go.Proofs.Ytfbjlgjlbndmkaa
open Go.ChangeShapes Go.WideShapes Go.ChangeAt Go.RowKit
set_option linter.unusedVariables false
set_option maxRecDepth 100000
set_option maxHeartbeats 2000000

set_option linter.unusedVariables false
theorem strs_nil {w : World} {len cap : Nat} {S : Nat → ByteArray} (h : IsStrs w none len cap S) : len = 0 ∧ cap = 0 := by
  rcases h with ⟨_, h1, h2⟩ | ⟨x, h1, _⟩
  · exact ⟨h1, h2⟩
  · cases h1
theorem strs_later {w w' : World} {a : Option Addr} {len cap : Nat} {S : Nat → ByteArray} {B : Nat} (h : IsStrs w a len cap S) (hb : Below B w w') (hB : w.heap.size ≤ B) : IsStrs w' a len cap S := by
  rcases h with h | ⟨x, hx, hl, hc, hcell⟩
  · exact .inl h
  · exact .inr ⟨x, hx, hl, hc, fun i hi => ⟨(hb.cell (Nat.lt_of_lt_of_le (cell_lt (hcell i hi).1) hB)).trans (hcell i hi).1, (hcell i hi).2⟩⟩
theorem strs_cap {w : World} {a : Option Addr} {len cap : Nat} {S : Nat → ByteArray} (h : IsStrs w a len cap S) : len ≤ cap ∧ cap ≤ maxLen := by
  rcases h with ⟨_, h1, h2⟩ | ⟨x, _, h1, h2, _⟩
  · subst h1; subst h2; exact ⟨Nat.le_refl _, by unfold maxLen; omega⟩
  · exact ⟨h1, h2⟩
theorem strs_cell {w : World} {x : Addr} {len cap : Nat} {S : Nat → ByteArray} (h : IsStrs w (some x) len cap S) : ∀ i, i < cap → w.cell? (x.add i) = some (.string (S i)) ∧ (S i).size ≤ maxLen := by
  rcases h with ⟨h1, _⟩ | ⟨y, h1, _, _, h2⟩
  · cases h1
  · cases h1; exact h2

theorem info_clone10 : (Try.prog.info? 9).map (fun i => (i.zero, i.size, i.bytes)) = some (some (.string ⟨#[]⟩), 1, 16) := by kernel_rfl

theorem clone10_nil (w : World) : Calls Try.prog 10 #[.slice none 0 0] w fun e w' => e = .returned (.slice none 0 0) ∧ w = w' := by
  have hnil := fun W => Lib.run_eql_slice_nil (P := Try.prog) W 24 9 none 0 0 0 0 Try.underlying24
  go_enter Try.func10, Try.ntmps10
  go_wp2
  go_ret
  exact ⟨rfl, rfl⟩

theorem clone10_some (x : Addr) (len cap : Nat) (S : Nat → ByteArray) (w : World) (hn : len ≤ 1048576) (hcell : ∀ i, i < len → w.cell? (x.add i) = some (.string (S i))) :
    Calls Try.prog 10 #[.slice (some x) len cap] w fun e w' => e = .returned (.slice (some ⟨w.heap.size, 0, none⟩) len len) ∧ RowUpTo w' w.heap.size 9 len len (fun i => .string (S i)) ∧ Below w.heap.size w w' := by
  obtain ⟨i0, hi, hz0, hz1, hz2⟩ := info_parts info_clone10
  have hnil := fun W => Lib.run_eql_slice_nil (P := Try.prog) W 24 9 (some x) len cap 0 0 Try.underlying24
  have HC := Lib.hid hcell
  clear hcell
  go_enter Try.func10, Try.ntmps10
  go_wp2_with (at_make; refine wpList_make_full _ rfl _ _ 24 rfl w.heap.size 9 i0 _ 1 Try.underlying24 hi hz0 hz1 .i64 .i64 _ _ len rfl rfl rfl rfl (by rw [hz2]; omega) (by unfold maxLen; omega) (Nat.le_refl _) ?_; intro w1 hown hgrow)
  clear hi hz0 hz1 hz2 i0 hnil
  obtain ⟨cs0, hr0, hs0, _⟩ := RowAt.of_owns hown
  have hb1 : Below w.heap.size w w1 := (Below.refl _ _).grown hgrow (Nat.le_refl _) (fun k hk => by cases hk)
  have hB1 : RowUpTo w1 w.heap.size 9 len 0 (fun i => .string (S i)) := RowUpTo.start hr0 (by omega) _
  clear hown hgrow hr0 hs0
  go_loopw [4] (fun v4 wr => ∃ k : Nat, k ≤ len ∧ v4 = .int .i64 k ∧ RowUpTo wr w.heap.size 9 len k (fun i => .string (S i)) ∧ Below w.heap.size w wr) (fun v4 _ => len - (intOf v4).toNat)
  case atStart => exact ⟨0, Nat.zero_le _, rfl, hB1, hb1⟩
  case round =>
    obtain ⟨k, hk, rfl, hB, hb⟩ := hrel
    have HB := Lib.hid hB
    clear hB hB1 hb1
    by_cases hlt : k < len
    · obtain ⟨z, hz⟩ : ∃ z, S k = z := ⟨_, rfl⟩
      have hc := later (HC.out k hlt) hb
      rw [hz] at hc
      obtain ⟨x0, q0⟩ := HB.out.old hlt
      have q2 := HB.out.frozen k
      have HS : Hid (RowUpTo (wr.setCell ⟨w.heap.size, k, none⟩ (.string z)) w.heap.size 9 len (k + 1) (fun i => .string (S i))) := by
        have := HB.out.step hlt
        rw [hz] at this
        exact this
      clear hz
      go_wp2
      go_roundw
      case rel => exact ⟨k + 1, by omega, by go_num, HS.out, by go_grown⟩
      case measure => simp [intOf]; omega
    · obtain rfl : k = len := by omega
      go_wp2
      go_ret
      exact ⟨rfl, HB.out, hb⟩

/-- A copy of the labels. -/
def LabCopy (w : World) (n : Nat) (S : Nat → ByteArray) (e : Ending) (w' : World) : Prop := ∃ a, e = .returned (.slice a n n) ∧ IsStrs w' a n n S ∧ Below w.heap.size w w' ∧ ∀ x, a = some x → w.heap.size ≤ x.block
theorem clone10 (a : Option Addr) (len cap : Nat) (S : Nat → ByteArray) (w : World) (hn : len ≤ 1048576) (h : IsStrs w a len cap S) : Calls Try.prog 10 #[.slice a len cap] w (LabCopy w len S) := by
  cases a with
  | none =>
    obtain ⟨rfl, rfl⟩ := strs_nil h
    exact (clone10_nil w).mono fun e w' ⟨he, hw⟩ => ⟨none, he, .inl ⟨rfl, rfl, rfl⟩, hw ▸ Below.refl _ _, fun x hx => by cases hx⟩
  | some x =>
    have hc := strs_cell h
    have hl := strs_cap h
    exact (clone10_some x len cap S w hn (fun i hi => (hc i (by omega)).1)).mono fun e w' ⟨he, hr, hb⟩ => ⟨_, he, .inr ⟨_, rfl, Nat.le_refl _, by omega, fun i hi => ⟨hr.cellA hi, (hc i (by omega)).2⟩⟩, hb, fun x hx => by cases hx; exact Nat.le_refl _⟩

end Go.Proofs.Ytfbjlgjlbndmkaa
