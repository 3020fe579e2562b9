import Derived.Test.YtmbbabikbmkjpabKit
import Derived.Test.YtmbbabikbmkjpabTbE
import Derived.Test.YtmbbabikbmkjpabFlo
namespace Go.Proofs.Ytmbbabikbmkjpab.fnToBooleanSoundAgainstJSTruthiness
open Go.ChangeShapes Go.WideShapes Go.ChangeAt Go.RowKit
set_option linter.unusedVariables false
set_option maxRecDepth 100000
set_option maxHeartbeats 2000000

theorem info_cu : (Try.prog.info? 5).map (fun i => (i.zero, i.size, i.bytes)) = some (some (.int .u8 0), 1, 1) := by kernel_rfl

theorem cu_nil (w : World) : Calls Try.prog 7 #[.slice none 0 0] w fun e w' => e = .returned (.slice none 0 0) ∧ w = w' := by
  have hnil := fun W => Lib.run_eql_slice_nil (P := Try.prog) W 22 5 none 0 0 0 0 Try.underlying22
  go_enter Try.func7, Try.ntmps7
  go_wp2
  go_ret
  exact ⟨rfl, rfl⟩

theorem cu (x : Addr) (len cap : Nat) (zs : List Int) (w : World) (hn : len ≤ 1048576) (hcell : ∀ i, i < len → w.cell? (x.add i) = some (.int .u8 (zs.getD i 0))) :
    Calls Try.prog 7 #[.slice (some x) len cap] w fun e w' => e = .returned (.slice (some ⟨w.heap.size, 0, none⟩) len len) ∧ RowUpTo w' w.heap.size 5 len len (fun i => .int .u8 (zs.getD i 0)) ∧ Below w.heap.size w w' := by
  obtain ⟨i0, hi, hz0, hz1, hz2⟩ := info_parts info_cu
  have hnil := fun W => Lib.run_eql_slice_nil (P := Try.prog) W 22 5 (some x) len cap 0 0 Try.underlying22
  have HC := Lib.hid hcell
  clear hcell
  go_enter Try.func7, Try.ntmps7
  go_wp2_with (at_make; refine wpList_make_full _ rfl _ _ 22 rfl w.heap.size 5 i0 _ 1 Try.underlying22 hi hz0 hz1 .i64 .i64 _ _ len rfl rfl rfl rfl (by rw [hz2]; omega) (by unfold maxLen; omega) (Nat.le_refl _) ?_; intro w1 hown hgrow)
  clear hi hz0 hz1 hz2 i0 hnil
  obtain ⟨cs0, hr0, hs0, _⟩ := RowAt.of_owns hown
  have hb1 : Below w.heap.size w w1 := (Below.refl _ _).grown hgrow (Nat.le_refl _) (fun k hk => by cases hk)
  have hB1 : RowUpTo w1 w.heap.size 5 len 0 (fun i => .int .u8 (zs.getD i 0)) := RowUpTo.start hr0 (by omega) _
  clear hown hgrow hr0 hs0
  go_loopw [4] (fun v4 wr => ∃ k : Nat, k ≤ len ∧ v4 = .int .i64 k ∧ RowUpTo wr w.heap.size 5 len k (fun i => .int .u8 (zs.getD i 0)) ∧ Below w.heap.size w wr) (fun v4 _ => len - (intOf v4).toNat)
  case atStart => exact ⟨0, Nat.zero_le _, rfl, hB1, hb1⟩
  case round =>
    obtain ⟨k, hk, rfl, hB, hb⟩ := hrel
    have HB := Lib.hid hB
    clear hB hB1 hb1
    by_cases hlt : k < len
    · obtain ⟨z, hz⟩ : ∃ z, zs.getD k 0 = z := ⟨_, rfl⟩
      have hc := later (HC.out k hlt) hb
      rw [hz] at hc
      obtain ⟨x0, q0⟩ := HB.out.old hlt
      have q2 := HB.out.frozen k
      have HS : Hid (RowUpTo (wr.setCell ⟨w.heap.size, k, none⟩ (.int .u8 z)) w.heap.size 5 len (k + 1) (fun i => .int .u8 (zs.getD i 0))) := by
        have := HB.out.step hlt
        rw [hz] at this
        exact this
      clear hz
      go_wp2
      go_roundw
      case rel => exact ⟨k + 1, by omega, by go_num, HS.out, by go_grown⟩
      case measure => simp [intOf]; omega
    · obtain rfl : k = len := by omega
      go_wp2
      go_ret
      exact ⟨rfl, HB.out, hb⟩

theorem info_cf : (Try.prog.info? 63).map (fun i => (i.zero, i.size, i.bytes)) = some (some (.float .f64 0), 1, 8) := by kernel_rfl

theorem cf_nil (w : World) : Calls Try.prog 8 #[.slice none 0 0] w fun e w' => e = .returned (.slice none 0 0) ∧ w = w' := by
  have hnil := fun W => Lib.run_eql_slice_nil (P := Try.prog) W 23 63 none 0 0 0 0 Try.underlying23
  go_enter Try.func8, Try.ntmps8
  go_wp2
  go_ret
  exact ⟨rfl, rfl⟩

theorem cf (x : Addr) (len cap : Nat) (F : Nat → Nat) (w : World) (hn : len ≤ 1048576) (hcell : ∀ i, i < len → w.cell? (x.add i) = some (.float .f64 (F i))) :
    Calls Try.prog 8 #[.slice (some x) len cap] w fun e w' => e = .returned (.slice (some ⟨w.heap.size, 0, none⟩) len len) ∧ RowUpTo w' w.heap.size 63 len len (fun i => .float .f64 (F i)) ∧ Below w.heap.size w w' := by
  obtain ⟨i0, hi, hz0, hz1, hz2⟩ := info_parts info_cf
  have hnil := fun W => Lib.run_eql_slice_nil (P := Try.prog) W 23 63 (some x) len cap 0 0 Try.underlying23
  have HC := Lib.hid hcell
  clear hcell
  go_enter Try.func8, Try.ntmps8
  go_wp2_with (at_make; refine wpList_make_full _ rfl _ _ 23 rfl w.heap.size 63 i0 _ 1 Try.underlying23 hi hz0 hz1 .i64 .i64 _ _ len rfl rfl rfl rfl (by rw [hz2]; omega) (by unfold maxLen; omega) (Nat.le_refl _) ?_; intro w1 hown hgrow)
  clear hi hz0 hz1 hz2 i0 hnil
  obtain ⟨cs0, hr0, hs0, _⟩ := RowAt.of_owns hown
  have hb1 : Below w.heap.size w w1 := (Below.refl _ _).grown hgrow (Nat.le_refl _) (fun k hk => by cases hk)
  have hB1 : RowUpTo w1 w.heap.size 63 len 0 (fun i => .float .f64 (F i)) := RowUpTo.start hr0 (by omega) _
  clear hown hgrow hr0 hs0
  go_loopw [4] (fun v4 wr => ∃ k : Nat, k ≤ len ∧ v4 = .int .i64 k ∧ RowUpTo wr w.heap.size 63 len k (fun i => .float .f64 (F i)) ∧ Below w.heap.size w wr) (fun v4 _ => len - (intOf v4).toNat)
  case atStart => exact ⟨0, Nat.zero_le _, rfl, hB1, hb1⟩
  case round =>
    obtain ⟨k, hk, rfl, hB, hb⟩ := hrel
    have HB := Lib.hid hB
    clear hB hB1 hb1
    by_cases hlt : k < len
    · obtain ⟨z, hz⟩ : ∃ z, F k = z := ⟨_, rfl⟩
      have hc := later (HC.out k hlt) hb
      rw [hz] at hc
      obtain ⟨x0, q0⟩ := HB.out.old hlt
      have q2 := HB.out.frozen k
      have HS : Hid (RowUpTo (wr.setCell ⟨w.heap.size, k, none⟩ (.float .f64 z)) w.heap.size 63 len (k + 1) (fun i => .float .f64 (F i))) := by
        have := HB.out.step hlt
        rw [hz] at this
        exact this
      clear hz
      have hst := fun (A : Addr) (W : World) (m : Mode) => run_store Try.prog W A (.float .f64 z) m rfl
      go_wp2
      go_roundw
      case rel => exact ⟨k + 1, by omega, by go_num, HS.out, by go_grown⟩
      case measure => simp [intOf]; omega
    · obtain rfl : k = len := by omega
      go_wp2
      go_ret
      exact ⟨rfl, HB.out, hb⟩

def SomeB (w : World) (e : Ending) (w' : World) : Prop := ∃ b, e = .returned (.bool b) ∧ w = w'
theorem zb5any (a0 a1 : Option Addr) (n0 n1 c0 c1 : Nat) (w : World) (h0 : n0 ≤ 9223372036854775807) (h1 : n1 ≤ 9223372036854775807) :
    Calls Try.prog 5 #[.slice a0 n0 c0, .slice a1 n1 c1] w (SomeB w) := by
  go_enter Try.func5, Try.ntmps5
  go_wp2
  all_goals
    go_ret
    exact ⟨_, rfl, rfl⟩
theorem big6_no (a0 a1 : Option Addr) (n0 n1 c0 c1 : Nat) (w : World) (h0 : n0 ≤ 65536) (h1 : n1 ≤ 65536) (h2 : n0 + 8 * n1 ≤ 1048576) :
    Calls Try.prog 6 #[.slice a0 n0 c0, .slice a1 n1 c1] w fun e w' => e = .returned (.bool false) ∧ w = w' := by
  go_enter Try.func6, Try.ntmps6
  go_wp2
  go_ret
  exact ⟨ret_bool (by first | rfl | (simp; done) | (simp; omega)), rfl⟩
theorem big6_yes (a0 a1 : Option Addr) (n0 n1 c0 c1 : Nat) (w : World) (m0 : n0 ≤ 9223372036854775807) (m1 : n1 ≤ 9223372036854775807) (h : ¬ (n0 ≤ 65536 ∧ n1 ≤ 65536 ∧ n0 + 8 * n1 ≤ 1048576)) :
    Calls Try.prog 6 #[.slice a0 n0 c0, .slice a1 n1 c1] w fun e w' => e = .returned (.bool true) ∧ w = w' := by
  by_cases h0 : 65536 < n0
  · have d0 : decide (65536 < (n0 : Int)) = true := by simp; omega
    clear h
    go_enter Try.func6, Try.ntmps6
    go_wp2
    go_ret
    exact ⟨ret_bool (by first | rfl | (simp; done) | (simp; omega)), rfl⟩
  · have d0 : decide (65536 < (n0 : Int)) = false := by simp; omega
    by_cases h1 : 65536 < n1
    · have d1 : decide (65536 < (n1 : Int)) = true := by simp; omega
      clear h
      go_enter Try.func6, Try.ntmps6
      go_wp2
      go_ret
      exact ⟨ret_bool (by first | rfl | (simp; done) | (simp; omega)), rfl⟩
    · have d1 : decide (65536 < (n1 : Int)) = false := by simp; omega
      have h2 : 1048576 < n0 + 8 * n1 := by omega
      clear h
      go_enter Try.func6, Try.ntmps6
      go_wp2
      go_ret
      exact ⟨ret_bool (by first | rfl | (simp; done) | (simp; omega)), rfl⟩

/-- What the two clones leave. -/
def ClU (n : Nat) (z : List Int) (w : World) (e : Ending) (w' : World) : Prop := ∃ a c, e = .returned (.slice a n c) ∧ (∀ i, i < n → ∃ x, a = some x ∧ w'.cell? (x.add i) = some (.int .u8 (z.getD i 0))) ∧ Below w.heap.size w w'
def ClF (m : Nat) (w : World) (e : Ending) (w' : World) : Prop := ∃ a c, e = .returned (.slice a m c) ∧ Nums w' a m ∧ Below w.heap.size w w'
theorem clU (a : Option Addr) (n c : Nat) (z : List Int) (w : World) (hn : n ≤ 65536) (h : (a = none ∧ n = 0 ∧ c = 0) ∨ ∃ x, a = some x ∧ ∀ i, i < n → w.cell? (x.add i) = some (.int .u8 (z.getD i 0))) : Calls Try.prog 7 #[.slice a n c] w (ClU n z w) := by
  rcases h with ⟨rfl, rfl, rfl⟩ | ⟨x, rfl, h⟩
  · refine (cu_nil w).mono ?_
    rintro e w' ⟨rfl, rfl⟩
    exact ⟨_, _, rfl, fun i hi => by omega, Below.refl _ _⟩
  · refine (cu x n c z w (by omega) h).mono ?_
    rintro e w' ⟨rfl, hr, hb⟩
    exact ⟨_, _, rfl, fun i hi => ⟨_, rfl, hr.cellA hi⟩, hb⟩
theorem clF (a : Option Addr) (m c : Nat) (w : World) (hm : m ≤ 65536) (h : (a = none ∧ m = 0 ∧ c = 0) ∨ ∃ x, a = some x ∧ ∀ i, i < m → ∃ F, w.cell? (x.add i) = some (.float .f64 F)) : Calls Try.prog 8 #[.slice a m c] w (ClF m w) := by
  rcases h with ⟨rfl, rfl, rfl⟩ | ⟨x, rfl, h⟩
  · refine (cf_nil w).mono ?_
    rintro e w' ⟨rfl, rfl⟩
    exact ⟨_, _, rfl, fun i hi => by omega, Below.refl _ _⟩
  · obtain ⟨F, hF⟩ : ∃ F : Nat → Nat, ∀ i, i < m → w.cell? (x.add i) = some (.float .f64 (F i)) :=
      ⟨fun i => if hi : i < m then (h i hi).choose else 0, fun i hi => by simp only [hi, dif_pos]; exact (h i hi).choose_spec⟩
    refine (cf x m c F w (by omega) hF).mono ?_
    rintro e w' ⟨rfl, hr, hb⟩
    exact ⟨_, _, rfl, fun i hi => ⟨_, _, rfl, hr.cellA hi⟩, hb⟩

theorem walkIn (a0 : Option Addr) (n c0 : Nat) (z : List Int) (a1 : Option Addr) (m c1 : Nat) (w : World) (hn : n ≤ 65536) (hm : m ≤ 65536) (hs : n + 8 * m ≤ 1048576) (hz : ∀ i, i < n → 0 ≤ z.getD i 0 ∧ z.getD i 0 ≤ 255)
    (h0 : (a0 = none ∧ n = 0 ∧ c0 = 0) ∨ ∃ x, a0 = some x ∧ ∀ i, i < n → w.cell? (x.add i) = some (.int .u8 (z.getD i 0))) (h1 : (a1 = none ∧ m = 0 ∧ c1 = 0) ∨ ∃ x, a1 = some x ∧ ∀ i, i < m → ∃ F, w.cell? (x.add i) = some (.float .f64 F)) :
    Calls Try.prog 3 #[.slice a0 n c0, .slice a1 m c1] w fun e w' => e = .returned (.bool true) ∧ Below w.heap.size w w' := by
  have H0 := Lib.hid h0
  have H1 := Lib.hid h1
  have HZ := Lib.hid hz
  clear h0 h1 hz
  go_enter Try.func3, Try.ntmps3
  go_wp2_with fail
  refine (zb5any _ _ _ _ _ _ _ (by omega) (by omega)).mono ?_
  rintro e u ⟨b, rfl, rfl⟩
  cases b
  · go_wp2_with fail
    go_ret
    exact ⟨rfl, Below.refl _ _⟩
  go_wp2_with fail
  refine (big6_no _ _ _ _ _ _ _ hn hm hs).mono ?_
  rintro e u ⟨rfl, rfl⟩
  go_wp2_with fail
  refine (clU a0 n c0 z _ hn H0.out).mono ?_
  rintro e w1 ⟨b0, d0, rfl, hx, hb1⟩
  have HX := Lib.hid hx
  have HB1 := Lib.hid hb1
  have H1' : Hid ((a1 = none ∧ m = 0 ∧ c1 = 0) ∨ ∃ x, a1 = some x ∧ ∀ i, i < m → ∃ F, w1.cell? (x.add i) = some (.float .f64 F)) := by
    rcases H1.out with h | ⟨x, e, h⟩
    · exact .inl h
    · exact .inr ⟨x, e, fun i hi => by obtain ⟨F, hF⟩ := h i hi; exact ⟨F, later hF hb1⟩⟩
  clear hx hb1 H0 H1
  go_wp2_with fail
  refine (clF a1 m c1 _ hm H1'.out).mono ?_
  rintro e w2 ⟨b1, d1, rfl, hf, hb2⟩
  have HF := Lib.hid hf
  have HX2 : Hid (∀ i, i < n → ∃ x, b0 = some x ∧ w2.cell? (x.add i) = some (.int .u8 (z.getD i 0))) := fun i hi => by
    obtain ⟨x, e, h⟩ := HX.out i hi
    exact ⟨x, e, later h hb2⟩
  have HB2 := Lib.hid (HB1.out.trans (hb2.mono HB1.out.size))
  clear hf hb2 HX HB1 H1'
  go_wp2_with fail
  refine (build9 b0 n d0 z b1 m d1 _ hn hm HZ.out HX2.out HF.out).mono ?_
  rintro e w3 hg
  rcases hg with ⟨t, rfl, hb3⟩ | ⟨U, u, t, rfl, hgd, htr, hb3⟩
  · have HB3 := Lib.hid (HB2.out.trans (hb3.mono HB2.out.size))
    clear hb3
    go_wp2_with fail
    go_ret
    exact ⟨rfl, stepB HB3.out.size HB3.out (by go_grown)⟩
  · have HB3 := Lib.hid (HB2.out.trans (hb3.mono HB2.out.size))
    have HG := Lib.hid hgd
    have HT := Lib.hid htr
    clear hb3 hgd htr
    go_wp2_with fail
    refine (HG.out _ (KeptT.below (by go_grown))).mono ?_
    rintro e w4 ⟨b, s, ok, rfl, rfl, hb⟩
    cases ok
    · clear hb
      go_wp2_with fail
      go_ret
      exact ⟨rfl, stepB HB3.out.size HB3.out (by go_grown)⟩
    · cases b
      · obtain rfl : t = 0 := by simpa using hb rfl
        clear hb
        go_wp2_with fail
        go_ret
        exact ⟨rfl, stepB HB3.out.size HB3.out (by go_grown)⟩
      · obtain rfl : t = 1 := by simpa using hb rfl
        clear hb
        go_wp2_with fail
        go_ret
        exact ⟨rfl, stepB HB3.out.size HB3.out (by go_grown)⟩

theorem early (a0 : Option Addr) (n c0 : Nat) (a1 : Option Addr) (m c1 : Nat) (w : World) (m0 : n ≤ 9223372036854775807) (m1 : m ≤ 9223372036854775807) (h : ¬ (n ≤ 65536 ∧ m ≤ 65536 ∧ n + 8 * m ≤ 1048576)) :
    Calls Try.prog 3 #[.slice a0 n c0, .slice a1 m c1] w fun e w' => e = .returned (.bool true) ∧ Below w.heap.size w w' := by
  have H := Lib.hid h
  clear h
  go_enter Try.func3, Try.ntmps3
  go_wp2_with fail
  refine (zb5any _ _ _ _ _ _ _ m0 m1).mono ?_
  rintro e u ⟨b, rfl, rfl⟩
  cases b
  · go_wp2_with fail
    go_ret
    exact ⟨rfl, Below.refl _ _⟩
  go_wp2_with fail
  refine (big6_yes _ _ _ _ _ _ _ m0 m1 H.out).mono ?_
  rintro e u ⟨rfl, rfl⟩
  go_wp2_with fail
  go_ret
  exact ⟨rfl, Below.refl _ _⟩

theorem walk (a0 : Option Addr) (len0 cap0 : Nat) (z0 : List Int) (a1 : Option Addr) (len1 cap1 : Nat) (w : World) (w0 : IsRow .u8 w a0 len0 cap0 z0) (w1 : IsFloats w a1 len1 cap1) :
    Calls Try.prog 3 #[.slice a0 len0 cap0, .slice a1 len1 cap1] w fun e w' => e = .returned (.bool true) ∧ Below w.heap.size w w' := by
  have m0 : len0 ≤ 9223372036854775807 := by
    rcases w0 with ⟨rfl, rfl, rfl, rfl⟩ | ⟨x, rfl, hl, hm, hz, hcell, hwz⟩
    · omega
    · unfold maxLen at hm; omega
  have m1 : len1 ≤ 9223372036854775807 := by
    rcases w1 with ⟨rfl, rfl, rfl⟩ | ⟨x, rfl, hl, hm, hcell⟩
    · omega
    · unfold maxLen at hm; omega
  by_cases h : len0 ≤ 65536 ∧ len1 ≤ 65536 ∧ len0 + 8 * len1 ≤ 1048576
  · obtain ⟨h0, h1, h2⟩ := h
    refine walkIn a0 len0 cap0 z0 a1 len1 cap1 w h0 h1 h2 ?_ ?_ ?_
    · intro i hi
      rcases w0 with ⟨rfl, rfl, rfl, rfl⟩ | ⟨x, rfl, hl, hm, hz, hcell, hwz⟩
      · omega
      · have hi' : i < z0.length := by omega
        have e : z0.getD i 0 = z0[i] := by simp [List.getD, List.getElem?_eq_getElem hi']
        rw [e]
        have := bounds_u8 (hwz _ (List.getElem_mem hi'))
        omega
    · rcases w0 with ⟨rfl, rfl, rfl, rfl⟩ | ⟨x, rfl, hl, hm, hz, hcell, hwz⟩
      · exact .inl ⟨rfl, rfl, rfl⟩
      · exact .inr ⟨x, rfl, fun i hi => hcell i (by omega)⟩
    · rcases w1 with ⟨rfl, rfl, rfl⟩ | ⟨x, rfl, hl, hm, hcell⟩
      · exact .inl ⟨rfl, rfl, rfl⟩
      · exact .inr ⟨x, rfl, fun i hi => hcell i (by omega)⟩
  · exact early a0 len0 cap0 a1 len1 cap1 w m0 m1 h

end Go.Proofs.Ytmbbabikbmkjpab.fnToBooleanSoundAgainstJSTruthiness
