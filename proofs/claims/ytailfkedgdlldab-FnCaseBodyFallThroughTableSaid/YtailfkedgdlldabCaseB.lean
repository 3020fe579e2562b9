import Derived.Test.YtailfkedgdlldabKit
import Derived.Test.YtailfkedgdlldabCaseA
namespace Go.Proofs.Ytailfkedgdlldab.fnCaseBodyFallThroughTable
open Go.ChangeShapes Go.WideShapes Go.ChangeAt Go.RowKit
set_option linter.unusedVariables false
set_option maxRecDepth 100000
set_option maxHeartbeats 2000000

theorem info_copy : (Try.prog.info? 5).map (fun i => (i.zero, i.size, i.bytes)) = some (some (.int .u8 0), 1, 1) := by kernel_rfl

theorem copy_nil (w : World) : Calls Try.prog 30 #[.slice none 0 0] w fun e w' => e = .returned (.slice none 0 0) ∧ w = w' := by
  have hnil := fun W => Lib.run_eql_slice_nil (P := Try.prog) W 68 5 none 0 0 0 0 Try.underlying68
  go_enter Try.func30, Try.ntmps30
  go_wp2
  go_ret
  exact ⟨rfl, rfl⟩

theorem copy (x : Addr) (len cap : Nat) (zs : List Int) (w : World) (hn : len ≤ 1048576) (hcell : ∀ i, i < len → w.cell? (x.add i) = some (.int .u8 (zs.getD i 0))) :
    Calls Try.prog 30 #[.slice (some x) len cap] w fun e w' => e = .returned (.slice (some ⟨w.heap.size, 0, none⟩) len len) ∧ RowUpTo w' w.heap.size 5 len len (fun i => .int .u8 (zs.getD i 0)) ∧ Below w.heap.size w w' := by
  obtain ⟨i0, hi, hz0, hz1, hz2⟩ := info_parts info_copy
  have hnil := fun W => Lib.run_eql_slice_nil (P := Try.prog) W 68 5 (some x) len cap 0 0 Try.underlying68
  have HC := Lib.hid hcell
  clear hcell
  go_enter Try.func30, Try.ntmps30
  go_wp2_with (at_make; refine wpList_make_full _ rfl _ _ 68 rfl w.heap.size 5 i0 _ 1 Try.underlying68 hi hz0 hz1 .i64 .i64 _ _ len rfl rfl rfl rfl (by rw [hz2]; omega) (by unfold maxLen; omega) (Nat.le_refl _) ?_; intro w1 hown hgrow)
  clear hi hz0 hz1 hz2 i0 hnil
  obtain ⟨cs0, hr0, hs0, _⟩ := RowAt.of_owns hown
  have hb1 : Below w.heap.size w w1 := (Below.refl _ _).grown hgrow (Nat.le_refl _) (fun k hk => by cases hk)
  have hB1 : RowUpTo w1 w.heap.size 5 len 0 (fun i => .int .u8 (zs.getD i 0)) := RowUpTo.start hr0 (by omega) _
  clear hown hgrow hr0 hs0
  go_loopw [4] (fun v4 wr => ∃ k : Nat, k ≤ len ∧ v4 = .int .i64 k ∧ RowUpTo wr w.heap.size 5 len k (fun i => .int .u8 (zs.getD i 0)) ∧ Below w.heap.size w wr) (fun v4 _ => len - (intOf v4).toNat)
  case atStart => exact ⟨0, Nat.zero_le _, rfl, hB1, hb1⟩
  case round =>
    obtain ⟨k, hk, rfl, hB, hb⟩ := hrel
    have HB := Lib.hid hB
    clear hB hB1 hb1
    by_cases hlt : k < len
    · obtain ⟨z, hz⟩ : ∃ z, zs.getD k 0 = z := ⟨_, rfl⟩
      have hc := later (HC.out k hlt) hb
      rw [hz] at hc
      obtain ⟨x0, q0⟩ := HB.out.old hlt
      have q2 := HB.out.frozen k
      have HS : Hid (RowUpTo (wr.setCell ⟨w.heap.size, k, none⟩ (.int .u8 z)) w.heap.size 5 len (k + 1) (fun i => .int .u8 (zs.getD i 0))) := by
        have := HB.out.step hlt
        rw [hz] at this
        exact this
      clear hz
      go_wp2
      go_roundw
      case rel => exact ⟨k + 1, by omega, by go_num, HS.out, by go_grown⟩
      case measure => simp [intOf]; omega
    · obtain rfl : k = len := by omega
      go_wp2
      go_ret
      exact ⟨rfl, HB.out, hb⟩


/-- A slice of n bytes z. -/
def Codes (w : World) (v : Value) (n : Nat) (z : List Int) : Prop :=
  (v = .slice none 0 0 ∧ n = 0) ∨ ∃ x c, v = .slice (some x) n c ∧ n ≤ c ∧ ∀ i, i < n → w.cell? (x.add i) = some (.int .u8 (z.getD i 0))

theorem Codes.later {w w' : World} {v : Value} {n : Nat} {z : List Int} (h : Codes w v n z) (hb : Below w.heap.size w w') : Codes w' v n z := by
  rcases h with h | ⟨x, c, e, hc, h⟩
  · exact .inl h
  · exact .inr ⟨x, c, e, hc, fun i hi => Ytailfkedgdlldab.later (h i hi) hb⟩

theorem grown_of_below {w w' : World} (h : Below w.heap.size w w') : w.grownBy w' none := ⟨h.os, h.tape, h.output, h.size, fun k hk _ => h.block k hk⟩

theorem append_one {w : World} {d l : Value} {T : Nat} : ∀ j u, [d, l][j]? = some u → (w.alloc (.cells #[d, l] T)).cell? ((⟨w.heap.size, 0, none⟩ : Addr).add j) = some u := by
  intro j u hj
  match j, hj with
  | 0, hj => simp at hj; subst hj; simp [Addr.add]
  | 1, hj => simp at hj; subst hj; simp [Addr.add]

/-- The statements of a list of codes, with room for one more. -/
def Made (w : World) (B g n : Nat) (z : List Int) (k : Nat) : Prop :=
  ∃ xs : List Value, w.ownsRow B 75 2 (.slice (some ⟨g, 0, none⟩) k (n + 1)) k xs ∧ (0 < k → ∃ d j, xs[(k - 1) * 2]? = some d ∧ SD (fun b => b ≤ g) j w d (through (z.getD (k - 1) 0)))

theorem stmts_some (x : Addr) (n c : Nat) (z : List Int) (w : World) (hn : n ≤ 1048576) (hcell : ∀ i, i < n → w.cell? (x.add i) = some (.int .u8 (z.getD i 0))) (hwf : ∀ i, i < n → 0 ≤ z.getD i 0 ∧ z.getD i 0 ≤ 255) :
    Calls Try.prog 31 #[.slice (some x) n c, .int .i64 1] w fun e w' => e = .returned (.slice (some ⟨w.heap.size, 0, none⟩) n (n + 1)) ∧ Made w' w.heap.size w.heap.size n z n ∧ Below w.heap.size w w' := by
  obtain ⟨i0, hi, hz0, hz1, hz2⟩ := info_parts info75
  have HC := Lib.hid hcell
  have HW := Lib.hid hwf
  clear hcell hwf
  go_enter Try.func31, Try.ntmps31
  go_wp2_with (at_make; refine wpList_make_own _ rfl _ _ 70 rfl w.heap.size 75 i0 _ 2 Try.underlying70 hi hz0 hz1 .i64 .i64 _ (n + 1) rfl rfl (by omega) (by rw [hz2]; omega) (by unfold maxLen; omega) (Nat.le_refl _) ?_; intro w1 hown hgrow)
  have hb1 : Below w.heap.size w w1 := (Below.refl _ _).grown hgrow (Nat.le_refl _) (fun k hk => by cases hk)
  have hM1 : Made w1 w.heap.size w.heap.size n z 0 := ⟨_, hown, fun h => by omega⟩
  clear hown hgrow
  go_loopw [5, 6] (fun v5 v6 wr => ∃ k : Nat, k ≤ n ∧ v6 = .int .i64 k ∧ v5 = .slice (some ⟨w.heap.size, 0, none⟩) k (n + 1) ∧ Made wr w.heap.size w.heap.size n z k ∧ Below w.heap.size w wr) (fun _ v6 _ => n - (intOf v6).toNat)
  case atStart => exact ⟨0, Nat.zero_le _, rfl, rfl, hM1, hb1⟩
  case round =>
    obtain ⟨k, hk, rfl, rfl, hM, hb⟩ := hrel
    have HM := Lib.hid hM
    clear hM hM1 hb1
    by_cases hlt : k < n
    · obtain ⟨y, hy⟩ : ∃ y, z.getD k 0 = y := ⟨_, rfl⟩
      have hc := later (HC.out k hlt) hb
      have hw := HW.out k hlt
      rw [hy] at hc hw
      have HY := Lib.hid hy
      clear hy
      go_wp2_with fail
      refine (stmt y _ hw.1 hw.2).mono ?_
      rintro e w2 ⟨d, j, rfl, hd, h2⟩
      have hst := fun (A : Addr) (W : World) (m : Mode) => run_store Try.prog W A d m hd.one
      have HD := Lib.hid hd
      obtain ⟨xs, hown, hlast⟩ := HM.out
      have hown2 : w2.ownsRow w.heap.size 75 2 (.slice (some ⟨w.heap.size, 0, none⟩) k (n + 1)) k xs := hown.kept (grown_of_below h2) (.inr (by simp [Value.ownBlock]))
      have hRlt : w.heap.size < wr.heap.size := by
        obtain ⟨cs, hr, _⟩ := RowAt.of_owns hown
        exact hr.lt
      clear hd hlast
      go_wp2_with (at_builtin; refine wpList_append_fits _ rfl _ _ 70 rfl w.heap.size 75 i0 2 Try.underlying70 hi hz1 w.heap.size k (n + 1) xs rfl (hown2.alloc _) ⟨w2.heap.size, 0, none⟩ 1 1 [d, .int .i32 0] rfl rfl append_one ?_ (by omega) ?_)
      case refine_1 =>
        intro u hu
        simp at hu
        rcases hu with rfl | rfl
        · exact HD.out.one
        · rfl
      intro w3 hown3 hgrow3
      have hM3 : Hid (Made w3 w.heap.size w.heap.size n z (k + 1)) := by
        refine ⟨_, hown3, fun _ => ⟨d, j, ?_, ?_⟩⟩
        · have := hown2.1
          rw [List.getElem?_append_right (by simp; omega)]
          simp [this]
        · have e := HD.out
          rw [← HY.out] at e
          have e2 : SD (fun b => b ≤ w.heap.size) j w2 d (through (z.getD k 0)) := e.weaken (fun b hb' => Nat.lt_of_le_of_lt hb' hRlt)
          exact e2.kept fun b hb1 hb2 => (hgrow3.block b (by go_size) (by simp; omega)).trans (Below.heap_alloc _ _ _ hb2)
      have hb3 : Below w.heap.size w w3 := by
        have h4 := hb.size
        have h5 := h2.size
        refine Below.grown (w' := w3) (hb.trans ((h2.mono hb.size).trans ?_)) hgrow3 (by go_size) (fun k hk => by cases hk; exact Nat.le_refl _)
        go_grown
      clear hown3 hgrow3 hown2 hown
      go_wp2
      go_roundw
      case rel => exact ⟨k + 1, by omega, by go_num, rfl, hM3.out, hb3⟩
      case measure => simp [intOf]; omega
    · obtain rfl : k = n := by omega
      go_wp2
      go_ret
      exact ⟨rfl, HM.out, hb⟩

end Go.Proofs.Ytailfkedgdlldab.fnCaseBodyFallThroughTable
