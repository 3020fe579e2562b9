import Derived.Test.YtkncfhhiookgdaaDoorKit
import Derived.Test.YtkncfhhiookgdaaDoorSnE
namespace Go.Proofs.YtkncfhhiookgdaaDoor
open Go.ChangeShapes Go.WideShapes Go.ChangeAt Go.RowKit
set_option linter.unusedVariables false
set_option maxRecDepth 100000
set_option maxHeartbeats 2000000

open Go.Extern
theorem info_copyB : (Tryd.prog.info? 5).map (fun i => (i.zero, i.size, i.bytes)) = some (some (.int .u8 0), 1, 1) := by kernel_rfl

theorem copyB_nil (w : World) : Calls Tryd.prog 5 #[.slice none 0 0] w fun e w' => e = .returned (.slice none 0 0) ∧ w = w' := by
  have hnil := fun W => Lib.run_eql_slice_nil (P := Tryd.prog) W 22 5 none 0 0 0 0 Tryd.underlying22
  go_enter Tryd.func5, Tryd.ntmps5
  go_wp2
  go_ret
  exact ⟨rfl, rfl⟩

theorem copyB (x : Addr) (len cap : Nat) (zs : List Int) (w : World) (hn : len ≤ 1048576) (hcell : ∀ i, i < len → w.cell? (x.add i) = some (.int .u8 (zs.getD i 0))) :
    Calls Tryd.prog 5 #[.slice (some x) len cap] w fun e w' => e = .returned (.slice (some ⟨w.heap.size, 0, none⟩) len len) ∧ RowUpTo w' w.heap.size 5 len len (fun i => .int .u8 (zs.getD i 0)) ∧ Below w.heap.size w w' := by
  obtain ⟨i0, hi, hz0, hz1, hz2⟩ := info_parts info_copyB
  have hnil := fun W => Lib.run_eql_slice_nil (P := Tryd.prog) W 22 5 (some x) len cap 0 0 Tryd.underlying22
  have HC := Lib.hid hcell
  clear hcell
  go_enter Tryd.func5, Tryd.ntmps5
  go_wp2_with (at_make; refine wpList_make_full _ rfl _ _ 22 rfl w.heap.size 5 i0 _ 1 Tryd.underlying22 hi hz0 hz1 .i64 .i64 _ _ len rfl rfl rfl rfl (by rw [hz2]; omega) (by unfold maxLen; omega) (Nat.le_refl _) ?_; intro w1 hown hgrow)
  clear hi hz0 hz1 hz2 i0 hnil
  obtain ⟨cs0, hr0, hs0, _⟩ := RowAt.of_owns hown
  have hb1 : Below w.heap.size w w1 := (Below.refl _ _).grown hgrow (Nat.le_refl _) (fun k hk => by cases hk)
  have hB1 : RowUpTo w1 w.heap.size 5 len 0 (fun i => .int .u8 (zs.getD i 0)) := RowUpTo.start hr0 (by omega) _
  clear hown hgrow hr0 hs0
  go_loopw [4] (fun v4 wr => ∃ k : Nat, k ≤ len ∧ v4 = .int .i64 k ∧ RowUpTo wr w.heap.size 5 len k (fun i => .int .u8 (zs.getD i 0)) ∧ Below w.heap.size w wr) (fun v4 _ => len - (intOf v4).toNat)
  case atStart => exact ⟨0, Nat.zero_le _, rfl, hB1, hb1⟩
  case round =>
    obtain ⟨k, hk, rfl, hB, hb⟩ := hrel
    have HB := Lib.hid hB
    clear hB hB1 hb1
    by_cases hlt : k < len
    · obtain ⟨z, hz⟩ : ∃ z, zs.getD k 0 = z := ⟨_, rfl⟩
      have hc := later (HC.out k hlt) hb
      rw [hz] at hc
      obtain ⟨x0, q0⟩ := HB.out.old hlt
      have q2 := HB.out.frozen k
      have HS : Hid (RowUpTo (wr.setCell ⟨w.heap.size, k, none⟩ (.int .u8 z)) w.heap.size 5 len (k + 1) (fun i => .int .u8 (zs.getD i 0))) := by
        have := HB.out.step hlt
        rw [hz] at this
        exact this
      clear hz
      go_wp2
      go_roundw
      case rel => exact ⟨k + 1, by omega, by go_num, HS.out, by go_grown⟩
      case measure => simp [intOf]; omega
    · obtain rfl : k = len := by omega
      go_wp2
      go_ret
      exact ⟨rfl, HB.out, hb⟩


theorem info_copyI : (Tryd.prog.info? 21).map (fun i => (i.zero, i.size, i.bytes)) = some (some (.int .i32 0), 1, 4) := by kernel_rfl

theorem copyI_nil (w : World) : Calls Tryd.prog 6 #[.slice none 0 0] w fun e w' => e = .returned (.slice none 0 0) ∧ w = w' := by
  have hnil := fun W => Lib.run_eql_slice_nil (P := Tryd.prog) W 23 21 none 0 0 0 0 Tryd.underlying23
  go_enter Tryd.func6, Tryd.ntmps6
  go_wp2
  go_ret
  exact ⟨rfl, rfl⟩

theorem copyI (x : Addr) (len cap : Nat) (zs : List Int) (w : World) (hn : len ≤ 1048576) (hcell : ∀ i, i < len → w.cell? (x.add i) = some (.int .i32 (zs.getD i 0))) :
    Calls Tryd.prog 6 #[.slice (some x) len cap] w fun e w' => e = .returned (.slice (some ⟨w.heap.size, 0, none⟩) len len) ∧ RowUpTo w' w.heap.size 21 len len (fun i => .int .i32 (zs.getD i 0)) ∧ Below w.heap.size w w' := by
  obtain ⟨i0, hi, hz0, hz1, hz2⟩ := info_parts info_copyI
  have hnil := fun W => Lib.run_eql_slice_nil (P := Tryd.prog) W 23 21 (some x) len cap 0 0 Tryd.underlying23
  have HC := Lib.hid hcell
  clear hcell
  go_enter Tryd.func6, Tryd.ntmps6
  go_wp2_with (at_make; refine wpList_make_full _ rfl _ _ 23 rfl w.heap.size 21 i0 _ 1 Tryd.underlying23 hi hz0 hz1 .i64 .i64 _ _ len rfl rfl rfl rfl (by rw [hz2]; omega) (by unfold maxLen; omega) (Nat.le_refl _) ?_; intro w1 hown hgrow)
  clear hi hz0 hz1 hz2 i0 hnil
  obtain ⟨cs0, hr0, hs0, _⟩ := RowAt.of_owns hown
  have hb1 : Below w.heap.size w w1 := (Below.refl _ _).grown hgrow (Nat.le_refl _) (fun k hk => by cases hk)
  have hB1 : RowUpTo w1 w.heap.size 21 len 0 (fun i => .int .i32 (zs.getD i 0)) := RowUpTo.start hr0 (by omega) _
  clear hown hgrow hr0 hs0
  go_loopw [4] (fun v4 wr => ∃ k : Nat, k ≤ len ∧ v4 = .int .i64 k ∧ RowUpTo wr w.heap.size 21 len k (fun i => .int .i32 (zs.getD i 0)) ∧ Below w.heap.size w wr) (fun v4 _ => len - (intOf v4).toNat)
  case atStart => exact ⟨0, Nat.zero_le _, rfl, hB1, hb1⟩
  case round =>
    obtain ⟨k, hk, rfl, hB, hb⟩ := hrel
    have HB := Lib.hid hB
    clear hB hB1 hb1
    by_cases hlt : k < len
    · obtain ⟨z, hz⟩ : ∃ z, zs.getD k 0 = z := ⟨_, rfl⟩
      have hc := later (HC.out k hlt) hb
      rw [hz] at hc
      obtain ⟨x0, q0⟩ := HB.out.old hlt
      have q2 := HB.out.frozen k
      have HS : Hid (RowUpTo (wr.setCell ⟨w.heap.size, k, none⟩ (.int .i32 z)) w.heap.size 21 len (k + 1) (fun i => .int .i32 (zs.getD i 0))) := by
        have := HB.out.step hlt
        rw [hz] at this
        exact this
      clear hz
      go_wp2
      go_roundw
      case rel => exact ⟨k + 1, by omega, by go_num, HS.out, by go_grown⟩
      case measure => simp [intOf]; omega
    · obtain rfl : k = len := by omega
      go_wp2
      go_ret
      exact ⟨rfl, HB.out, hb⟩



theorem u8_range {n : Int} (h : (Lit.int .u8 n).wf = true) : 0 ≤ n ∧ n ≤ 255 := by
  simp only [Lit.wf, Bool.and_eq_true, decide_eq_true_eq] at h
  exact ⟨h.1, h.2⟩
theorem getD_mem {z : List Int} {i : Nat} (h : i < z.length) : z.getD i 0 ∈ z := by
  have e : z.getD i 0 = z[i] := by simp [List.getD, h]
  rw [e]
  exact List.getElem_mem _
theorem add0 (g i : Nat) : (⟨g, 0, none⟩ : Addr).add i = ⟨g, i, none⟩ := by
  cases i <;> simp [Addr.add]
theorem kindsAny (a : Option Addr) (len cap : Nat) (z : List Int) (w W : World) (hW : Below w.heap.size w W) (hn : len ≤ 4096) (h : IsRow .u8 w a len cap z) :
    Calls Tryd.prog 5 #[.slice a len cap] W fun e w' => ∃ o c', e = .returned (.slice o len c') ∧ Below W.heap.size W w' ∧ ∀ i, i < len → ∃ x, o = some x ∧ w'.cell? (x.add i) = some (.int .u8 (z.getD i 0)) ∧ 0 ≤ z.getD i 0 ∧ z.getD i 0 ≤ 255 := by
  rcases h with ⟨rfl, rfl, rfl, _⟩ | ⟨x, rfl, h1, h2, h3, h4, h5⟩
  · exact (copyB_nil W).mono fun e w' ⟨he, hw⟩ => ⟨_, _, he, by rw [← hw]; exact Below.refl _ _, fun i hi => by omega⟩
  · refine (copyB x len cap z W (by omega) (fun i hi => later (h4 i (by omega)) hW)).mono fun e w' ⟨he, hr, hb⟩ => ⟨_, _, he, hb, fun i hi => ?_⟩
    have hm : z.getD i 0 ∈ z := getD_mem (by omega)
    have := u8_range (h5 _ hm)
    obtain ⟨cs, r, hs, hc⟩ := hr
    exact ⟨_, rfl, by rw [add0]; exact r.cellv (hc i hi), this.1, this.2⟩
theorem startsAny (a : Option Addr) (len cap : Nat) (z : List Int) (w W : World) (hW : Below w.heap.size w W) (hn : len ≤ 4096) (h : IsRow .i32 w a len cap z) :
    Calls Tryd.prog 6 #[.slice a len cap] W fun e w' => ∃ o c', e = .returned (.slice o len c') ∧ Below W.heap.size W w' ∧ ∀ i, i < len → ∃ x, o = some x ∧ w'.cell? (x.add i) = some (.int .i32 (z.getD i 0)) := by
  rcases h with ⟨rfl, rfl, rfl, _⟩ | ⟨x, rfl, h1, h2, h3, h4, h5⟩
  · exact (copyI_nil W).mono fun e w' ⟨he, hw⟩ => ⟨_, _, he, by rw [← hw]; exact Below.refl _ _, fun i hi => by omega⟩
  · refine (copyI x len cap z W (by omega) (fun i hi => later (h4 i (by omega)) hW)).mono fun e w' ⟨he, hr, hb⟩ => ⟨_, _, he, hb, fun i hi => ?_⟩
    obtain ⟨cs, r, hs, hc⟩ := hr
    exact ⟨_, rfl, by rw [add0]; exact r.cellv (hc i hi)⟩
def SomeB (w : World) (e : Ending) (w' : World) : Prop := ∃ b, e = .returned (.bool b) ∧ w = w'
theorem zz4 (a1 : Option Addr) (n1 c1 : Nat) (a2 : Option Addr) (n2 c2 : Nat) (p q r s t : Bool) (w : World) (h1 : n1 ≤ 9223372036854775807) (h2 : n2 ≤ 9223372036854775807) : Calls Tryd.prog 4 #[.slice a1 n1 c1, .slice a2 n2 c2, .bool p, .bool q, .bool r, .bool s, .bool t] w (SomeB w) := by
  by_cases h : n1 ≤ 1048576
  · by_cases h' : n2 ≤ 1048576
    · by_cases hs : n1 + n2 ≤ 1048576
      · go_enter Tryd.func4, Tryd.ntmps4
        go_wp2
        go_ret
        exact ⟨_, rfl, rfl⟩
      · go_enter Tryd.func4, Tryd.ntmps4
        go_wp2
        all_goals
          go_ret
          exact ⟨_, rfl, rfl⟩
    · have hn : 1048576 < n2 := by omega
      go_enter Tryd.func4, Tryd.ntmps4
      go_wp2
      go_ret
      exact ⟨_, rfl, rfl⟩
  · have hn : 1048576 < n1 := by omega
    go_enter Tryd.func4, Tryd.ntmps4
    go_wp2
    go_ret
    exact ⟨_, rfl, rfl⟩

end Go.Proofs.YtkncfhhiookgdaaDoor
