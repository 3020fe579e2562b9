import Derived.Test.YthhophbddnfnnaaKit
import Derived.Test.YthhophbddnfnnaaJoinA
namespace Go.Proofs.Ythhophbddnfnnaa.fnJoinAllWithCommaKeepsPresentInOrder
open Go.ChangeShapes Go.WideShapes Go.ChangeAt Go.RowKit
set_option linter.unusedVariables false
set_option maxRecDepth 100000
set_option maxHeartbeats 2000000

theorem info27 : (Try.prog.info? 27).map (fun i => (i.zero, i.size, i.bytes)) = some (some (.agg #[.nilIface, .int .i32 0]), 2, 24) := by kernel_rfl

def itemD (z : List Int) (P : Nat → Nat) (i : Nat) : Value := if z.getD i 0 = 0 then .nilIface else num P i

/-- The first k of n items lie in row R as the numbers say, the others are zero. -/
def Items (w : World) (R n k : Nat) (z : List Int) (P : Nat → Nat) : Prop :=
  ∃ cs, RowAt w R cs 27 ∧ cs.size = n * 2 ∧ ∀ i, i < n → cs[i * 2]? = some (if i < k then itemD z P i else .nilIface) ∧ ∃ q : Int, cs[i * 2 + 1]? = some (.int .i32 q) ∧ (i < k → q = i)

theorem Items.lt {w : World} {R n k : Nat} {z : List Int} {P : Nat → Nat} (h : Items w R n k z P) : R < w.heap.size := by
  obtain ⟨cs, hr, _⟩ := h
  exact hr.lt

theorem Items.start {w : World} {B R n : Nat} {z : List Int} {P : Nat → Nat} (h : w.ownsRow B 27 2 (.slice (some ⟨R, 0, none⟩) n n) n (madeCells (Value.agg #[.nilIface, .int .i32 0]).cells (n * 2)).toList) : Items w R n 0 z P := by
  obtain ⟨cs, hr, hs, _, _, ht⟩ := RowAt.of_owns h
  refine ⟨cs, hr, hs, fun i hi => ?_⟩
  have e : ∀ j, j < n * 2 → cs[j]? = (madeCells (Value.agg #[.nilIface, .int .i32 0]).cells (n * 2))[j]? := by
    intro j hj
    have : (cs.toList.take (n * 2))[j]? = (madeCells (Value.agg #[.nilIface, .int .i32 0]).cells (n * 2)).toList[j]? := by rw [ht]
    rw [List.getElem?_take, if_pos hj] at this
    simpa using this
  have e2 : ∀ j, j < n * 2 → (madeCells (Value.agg #[.nilIface, .int .i32 0]).cells (n * 2))[j]? = some (if j % 2 = 0 then .nilIface else .int .i32 0) := by
    intro j hj
    simp [madeCells, Value.cells, hj]
    rcases Nat.mod_two_eq_zero_or_one j with h0 | h0 <;> simp [h0]
  refine ⟨?_, 0, ?_, fun h => by omega⟩
  · rw [e _ (by omega), e2 _ (by omega), if_pos (by omega), if_neg (by omega)]
  · rw [e _ (by omega), e2 _ (by omega), if_neg (by omega)]

theorem Items.hole {w : World} {R n k : Nat} {z : List Int} {P : Nat → Nat} (h : Items w R n k z P) (hk : k < n) (hz : z.getD k 0 = 0) : Items (w.setCell ⟨R, k * 2 + 1, none⟩ (.int .i32 k)) R n (k + 1) z P := by
  obtain ⟨cs, hr, hs, hx⟩ := h
  refine ⟨_, hr.set _ _, by simp [hs], fun i hi => ?_⟩
  obtain ⟨h1, q, h2, h3⟩ := hx i hi
  by_cases e : i = k
  · subst e
    refine ⟨?_, i, ?_, fun _ => rfl⟩
    · rw [Array.getElem?_setIfInBounds, if_neg (by omega), h1, if_neg (by omega), if_pos (by omega), itemD, if_pos hz]
    · rw [Array.getElem?_setIfInBounds, if_pos rfl, if_pos (by omega)]
  · refine ⟨?_, q, ?_, fun h => h3 (by omega)⟩
    · rw [Array.getElem?_setIfInBounds, if_neg (by omega), h1]
      by_cases h4 : i < k
      · rw [if_pos h4, if_pos (by omega)]
      · rw [if_neg h4, if_neg (by omega)]
    · rw [Array.getElem?_setIfInBounds, if_neg (by omega), h2]

theorem Items.more {w : World} {R n k b : Nat} {z : List Int} {P : Nat → Nat} {o : Obj} (h : Items w R n k z P) (hk : k < n) (hz : z.getD k 0 ≠ 0) :
    Items (((w.setCell ⟨R, k * 2 + 1, none⟩ (.int .i32 k)).setCell ⟨R, k * 2, none⟩ (.iface 47 (.pointer (some ⟨b, 0, none⟩)))).alloc o) R n (k + 1) z (fun i => if i = k then b else P i) := by
  obtain ⟨cs, hr, hs, hx⟩ := h
  refine ⟨_, ((hr.set _ _).set _ _).alloc _, by simp [hs], fun i hi => ?_⟩
  obtain ⟨h1, q, h2, h3⟩ := hx i hi
  by_cases e : i = k
  · subst e
    refine ⟨?_, i, ?_, fun _ => rfl⟩
    · rw [Array.getElem?_setIfInBounds, if_pos rfl, if_pos (by simp; omega), if_pos (by omega), itemD, if_neg hz, num, if_pos rfl]
    · rw [Array.getElem?_setIfInBounds, if_neg (by omega), Array.getElem?_setIfInBounds, if_pos rfl, if_pos (by omega)]
  · refine ⟨?_, q, ?_, fun h => h3 (by omega)⟩
    · rw [Array.getElem?_setIfInBounds, if_neg (by omega), Array.getElem?_setIfInBounds, if_neg (by omega), h1]
      by_cases h4 : i < k
      · rw [if_pos h4, if_pos (by omega)]
        simp [itemD, num, e]
      · rw [if_neg h4, if_neg (by omega)]
    · rw [Array.getElem?_setIfInBounds, if_neg (by omega), Array.getElem?_setIfInBounds, if_neg (by omega), h2]

theorem nums (x : Addr) (n c : Nat) (z : List Int) (w : World) (hn : n ≤ 16384) (hcell : ∀ i, i < n → w.cell? (x.add i) = some (.int .i64 (z.getD i 0))) :
    Calls Try.prog 17 #[.slice (some x) n c] w fun e w' => e = .returned (.slice (some ⟨w.heap.size, 0, none⟩) n n) ∧ (∃ P, Items w' w.heap.size n n z P) ∧ Below w.heap.size w w' := by
  obtain ⟨i0, hi, hz0, hz1, hz2⟩ := info_parts info27
  have HC := Lib.hid hcell
  clear hcell
  go_enter Try.func17, Try.ntmps17
  go_wp2_with (at_make; refine wpList_make_full _ rfl _ _ 43 rfl w.heap.size 27 i0 _ 2 Try.underlying43 hi hz0 hz1 .i64 .i64 _ _ n rfl rfl rfl rfl (by rw [hz2]; omega) (by unfold maxLen; omega) (Nat.le_refl _) ?_; intro w1 hown hgrow)
  clear hi hz0 hz1 hz2 i0
  have hB1 : Hid (Items w1 w.heap.size n 0 z (fun _ => 0)) := Items.start hown
  have hb1 : Below w.heap.size w w1 := (Below.refl _ _).grown hgrow (Nat.le_refl _) (fun k hk => by cases hk)
  clear hown hgrow
  go_loopw [4] (fun v4 wr => ∃ k : Nat, k ≤ n ∧ v4 = .int .i64 k ∧ (∃ P, Items wr w.heap.size n k z P) ∧ Below w.heap.size w wr) (fun v4 _ => n - (intOf v4).toNat)
  case atStart => exact ⟨0, Nat.zero_le _, rfl, ⟨_, hB1.out⟩, hb1⟩
  case round =>
    obtain ⟨k, hk, rfl, ⟨P, hI⟩, hb⟩ := hrel
    have HI := Lib.hid hI
    clear hI hB1 hb1
    by_cases hlt : k < n
    · obtain ⟨y, hy⟩ : ∃ y, z.getD k 0 = y := ⟨_, rfl⟩
      have hc := later (HC.out k hlt) hb
      rw [hy] at hc
      have HY := Lib.hid hy
      obtain ⟨cs, hr, hs, hx⟩ := HI.out
      obtain ⟨h1, q, h2, _⟩ := hx k hlt
      rw [if_neg (by omega)] at h1
      have c0 := hr.cellv h1
      have c1 := hr.cellv h2
      have f0 := hr.frozen (k * 2)
      have f1 := hr.frozen (k * 2 + 1)
      have hRlt := hr.lt
      have hcs := cell_lt hc
      clear hy hr hs hx h1 h2
      have hxR : (x.add k).block ≠ w.heap.size := by
        have := cell_lt (HC.out k hlt)
        omega
      have hc2 : ∀ v, (wr.setCell ⟨w.heap.size, k * 2 + 1, none⟩ v).cell? (x.add k) = some (.int .i64 y) := fun v => by
        rw [World.cell?_setCell_other _ _ _ _ (fun e => hxR (by rw [← e]))]
        exact hc
      by_cases h0 : y = 0
      · have hy0 : (y != 0) = false := by simpa using h0
        have HZ : Hid (z.getD k 0 = 0) := by unfold Hid; rw [HY.out]; exact h0
        clear h0
        go_wp2
        go_roundw
        case rel => exact ⟨k + 1, by omega, by go_num, ⟨P, HI.out.hole hlt HZ.out⟩, by go_grown⟩
        case measure => simp [intOf]; omega
      · have hy0 : (y != 0) = true := by simpa using h0
        have HZ : Hid (z.getD k 0 ≠ 0) := by unfold Hid; rw [HY.out]; exact h0
        clear h0
        go_wp2
        go_roundw
        case rel => exact ⟨k + 1, by omega, by go_num, ⟨_, HI.out.more hlt HZ.out⟩, by go_grown⟩
        case measure => simp [intOf]; omega
    · obtain rfl : k = n := by omega
      go_wp2
      go_ret
      exact ⟨rfl, ⟨P, HI.out⟩, hb⟩

end Go.Proofs.Ythhophbddnfnnaa.fnJoinAllWithCommaKeepsPresentInOrder
