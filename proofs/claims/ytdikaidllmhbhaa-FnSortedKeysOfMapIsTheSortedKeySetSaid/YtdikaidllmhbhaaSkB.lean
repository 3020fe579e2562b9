import Derived.Test.YtdikaidllmhbhaaKit
import Derived.Test.YtdikaidllmhbhaaSkC
import Derived.Sort.KeysCollected
import Derived.Sort.OwnSorted
import Derived.Maps.RangeWalk
import Derived.Maps.AppendAt
namespace Go.Proofs.Ytdikaidllmhbhaa.fnSortedKeysOfMapIsTheSortedKeySet
open Go.ChangeShapes Go.WideShapes Go.ChangeAt Go.RowKit Go.Maps Go.Sort
set_option linter.unusedVariables false
set_option maxRecDepth 100000
set_option maxHeartbeats 2000000

theorem law9 : Keyed Try.prog 9 := string_keyed Try.underlying9
theorem info9 : (Try.prog.info? 9).map (fun i => (i.zero, i.size, i.bytes)) = some (some (.string ⟨#[]⟩), 1, 16) := by kernel_rfl
/-- An element, whatever it is. -/
def anyE : Value → Option (DataW Unit × List MemPlace) := fun _ => some (.agg [], [])

/-- What the library's sort does. -/
def SortS : Prop := ∀ (blk off cap : Nat) (ss : List (List UInt8)) (w : World), Holds encStr w blk off ss.toArray → blk < w.heap.size → ss.length < 4611686018427387904 →
  Calls Try.prog 10 #[.slice (some ⟨blk, off, none⟩) ss.length cap] w fun e w' =>
    e = .returned (.tuple #[]) ∧ ∃ n os, w' = grow (putRow encStr (Sort.ahead w n) blk off (ss.mergeSort fun x y => decide (x ≤ y)).toArray) os

def Got9 (D0 : DataW Unit) (w : World) (e : Ending) (w' : World) : Prop := ∃ (g cap : Nat) (ss : List (List UInt8)), e = .returned (.slice (some ⟨g, 0, none⟩) ss.length cap) ∧ ss.Perm (strKeys D0) ∧ ss.Nodup ∧
  (∀ i, i < ss.length → w'.cell? ⟨g, i, none⟩ = some (.string (Sb (ss.mergeSort leB) i))) ∧ Below w.heap.size w w'

theorem keys9 (b n : Nat) (hsort : SortS) (D0 : DataW Unit) (w : World) (hown : w.ownsMap Try.prog 9 anyE b n D0) (hmax : Maps.size D0 ≤ 65536) :
    Calls Try.prog 9 #[.map (some b)] w (Got9 D0 w) := by
  obtain ⟨i0, hi, hz0, hz1, hz2⟩ := info_parts info9
  have hbl := hown.lt
  go_enter Try.func9, Try.ntmps9
  go_wp2_with (first
    | (at_len; refine wpList_len_own _ rfl _ 26 rfl 9 33 Try.underlying26 _ b n _ rfl hown ?_)
    | (at_make; refine wpList_make_own _ rfl _ _ 22 rfl w.heap.size 9 i0 (.string ⟨#[]⟩) 1 Try.underlying22 hi hz0 hz1 _ _ _ (Maps.size D0) rfl rfl rfl (by rw [hz2]; omega) (by unfold maxLen; omega) (Nat.le_refl _) ?_; intro w1 hrow1 hg1)
    | (at_range; refine wpList_range_own _ rfl _ 26 rfl 9 33 law9 Try.underlying26 _ b n _ rfl (hown.kept hg1 (by simp)) ?_; intro w0 hrg0 hg0 hs0))
  go_frame
  go_loopw [3] (fun v wr => ∃ (left : Lit → Bool) (cnt : Nat) (ss : List (List UInt8)), wr.ranges Try.prog 9 anyE b w1.heap.size n D0 left cnt ∧ ss.length + cnt ≤ Maps.size D0 ∧
      wr.ownsRow w.heap.size 9 1 v ss.length (ss.map encStr) ∧ v ≠ .slice none 0 0 ∧ Collected D0 left ss ∧ Below w.heap.size w wr)
    (fun _ wr => wr.rangeLeft b w1.heap.size)
  case atStart =>
    exact ⟨_, _, [], hrg0, by simp, hrow1.kept hg0 (Or.inr (by simp [Value.ownBlock])), by simp, Collected.start D0,
      ((Below.refl _ _).grown hg1 (Nat.le_refl _) (fun j hj => by cases hj)).grown hg0 hg1.size (fun j hj => by cases hj)⟩
  case round =>
    obtain ⟨left, cnt, ss, hrg, hcs, hrow, hnn, hC, hnx⟩ := hrel
    go_wp2_with (at_next; refine wpList_next_ranges _ rfl _ rfl 9 law9 anyE encStr (fun v : Value => v) (fun key kl hk => by obtain ⟨x, hx, _⟩ := Maps.keyOf_str Try.underlying9 hk; exact ⟨x, hx⟩) (fun v y hv => ⟨v, rfl⟩) b w1.heap.size n _ _ _ rfl hrg ?_ ?_)
    · intro hc0 hl0
      rcases hrow.2 with ⟨hnil, _⟩ | ⟨g, cap, cur, rfl, hbase, hb, h1, h2, h3, h4⟩
      · exact absurd hnil hnn
      have hH : Holds encStr wr g 0 ss.toArray := holds_of_block hb (by simpa using h4)
      have hgl : g < wr.heap.size := (Array.getElem?_eq_some_iff.1 hb).1
      have hc := hsort g 0 cap ss wr hH hgl (by omega)
      go_wp2_with (go_at_call 10; refine hc.mono ?_; rintro e w' ⟨rfl, nn, os, rfl⟩)
      go_ret
      have hS := ownsRow_sorted (n := nn) (os := os) (ss := ss) (ts := ss.mergeSort leB) (by simp) hbase hb h1 h2 h3
      refine ⟨g, cap, ss, rfl, hC.perm hown law9 Try.underlying9 hl0, hC.1, fun i hi => ?_, hnx.grown (grownBy_sorted _) hnx.size (fun j hj => by cases hj; exact hbase)⟩
      rcases hS.2 with ⟨hnil, _⟩ | ⟨g', cap', cur', hv', _, hb', _, _, _, h4'⟩
      · cases hnil
      cases hv'
      rw [cell_of_row _ g i cur' 9 (0, 0) hb']
      have hi' : i < (ss.mergeSort leB).length := by simpa using hi
      have e := congrArg (fun l => l[i]?) h4'
      simp only [Nat.mul_one] at e
      rw [List.getElem?_take_of_lt hi, List.getElem?_map, Gt_some hi', Array.getElem?_toList] at e
      exact e
    · intro x c kl yd yp w2 cnt2 hkey hlk hv hat hrg2 hlt hg2 hs2 hen
      obtain ⟨x', ex, rfl, _⟩ := Maps.keyOf_str Try.underlying9 hkey
      obtain rfl : x = x' := encStr_inj ex
      have hrow2 := hrow.kept hg2 (Or.inr (row_ne_iter hrow hrg).symm)
      clear hs2
      go_wp2_with (at_builtin; refine wpList_append_own _ rfl _ _ 22 rfl w.heap.size 9 i0 (.string ⟨#[]⟩) 1 16 Try.underlying22 hi hz0 hz1 hz2 rfl (by decide) _ _ _ rfl (hrow2.alloc _) ⟨w2.heap.size, 0, none⟩ 1 1 [encStr x] rfl rfl (cell_one_new _ _ _) (by simp [Value.oneCell', encStr]) (by unfold maxLen at *; omega) (by omega) (by have := hnx.size; have := hg2.size; simp; omega) ?_; intro v' w3 hown' hg3 hnil3)
      have hrg3 := (hrg2.alloc _).kept hg3 (row_ne_low hrow2 hbl) (row_ne_iter hrow2 hrg2)
      go_roundw
      case rel =>
        refine ⟨_, cnt2, ss ++ [x], hrg3, by simp; omega, by simpa using hown', fun hv' => by have := (hnil3.1 hv').2; omega, hC.step hlk hat, ?_⟩
        exact ((hnx.grown hg2 hnx.size (fun j hj => by cases hj; exact hg1.size)).alloc (by have := hnx.size; have := hg2.size; omega) _).grown hg3 (by have := hnx.size; have := hg2.size; simp; omega) (fun j hj => (hrow2.lt j hj).1)
      case measure => rw [hrg3.left_eq, hrg.left_eq]; exact hlt

end Go.Proofs.Ytdikaidllmhbhaa.fnSortedKeysOfMapIsTheSortedKeySet
