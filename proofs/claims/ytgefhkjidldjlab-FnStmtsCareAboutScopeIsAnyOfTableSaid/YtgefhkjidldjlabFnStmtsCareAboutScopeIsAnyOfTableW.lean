import Derived.Test.YtgefhkjidldjlabKit
import Derived.Test.YtgefhkjidldjlabCareB
namespace Go.Proofs.Ytgefhkjidldjlab.fnStmtsCareAboutScopeIsAnyOfTable
open Go.ChangeShapes Go.WideShapes Go.ChangeAt Go.RowKit
set_option linter.unusedVariables false
set_option maxRecDepth 100000
set_option maxHeartbeats 2000000

def anyC (zs : List Int) (n : Nat) : Bool := (List.range n).any fun i => decide (20 ≤ zs.getD i 0 % 26)
theorem anyC_succ (zs : List Int) (n : Nat) : anyC zs (n + 1) = (anyC zs n || decide (20 ≤ zs.getD n 0 % 26)) := by simp [anyC, List.range_succ]
theorem anyC_zero (zs : List Int) : anyC zs 0 = false := rfl

/-- Once an element cares the whole list does. -/
theorem anyC_hit (zs : List Int) {k : Nat} (h : decide (20 ≤ zs.getD k 0 % 26) = true) : ∀ {n : Nat}, k < n → anyC zs n = true
  | 0, hk => absurd hk (by omega)
  | n + 1, hk => by
    rw [anyC_succ]
    by_cases e : k = n
    · subst e; rw [h]; simp
    · rw [anyC_hit zs h (n := n) (by omega)]; rfl

theorem any19 (R N : Nat) (zs : List Int) (w : World) (hN : N ≤ 65536) (hB : Built w R N N zs) :
    Calls Try.prog 19 #[.slice (some ⟨R, 0, none⟩) N N] w fun e w' => e = .returned (.bool (anyC zs N)) ∧ Below w.heap.size w w' := by
  have HB := Lib.hid hB
  clear hB
  go_enter Try.func19, Try.ntmps19
  go_wp2
  go_loopw [7] (fun v7 wr => ∃ k : Nat, k ≤ N ∧ v7 = .int .i64 k ∧ anyC zs k = false ∧ Below w.heap.size w wr) (fun v7 _ => N - (intOf v7).toNat)
  case atStart => exact ⟨0, Nat.zero_le _, rfl, rfl, Below.refl _ _⟩
  case round =>
    obtain ⟨k, hk, rfl, hno, hb⟩ := hrel
    have HN := Lib.hid hno
    have hsz := hb.size
    clear hno
    by_cases hlt : k < N
    · obtain ⟨cs, hr, hs, hx⟩ := HB.out
      obtain ⟨d, l, e1, e2, e3⟩ := hx k hlt
      have c0 := (hr.below hb hr.lt).cellv e1
      have c1 := (hr.below hb hr.lt).cellv e2
      have hR : R < wr.heap.size := Nat.lt_of_lt_of_le hr.lt hsz
      have hst := fun (A : Addr) (W : World) (m : Mode) => run_store Try.prog W A d m e3.one
      have E3 := Lib.hid e3
      clear hx e1 e2 e3 hs hr cs
      obtain ⟨c, hc⟩ : ∃ c, decide (20 ≤ zs.getD k 0 % 26) = c := ⟨_, rfl⟩
      have HC := Lib.hid hc
      clear hc
      cases c
      · go_wp2_with fail
        refine (care _ R d false l ?_).mono ?_
        · have := E3.out
          rw [HC.out] at this
          exact this.kept (fun b _ hb' => Below.block (B := w.heap.size) (w := w) (by go_grown) b hb')
        rintro e w2 ⟨rfl, h2⟩
        have hb2 : Below w.heap.size w w2 := by
          refine Below.trans ?_ (h2.mono ?_)
          · go_grown
          · go_size
        clear h2
        go_wp2
        go_roundw
        case rel => exact ⟨k + 1, by omega, by go_num, by rw [anyC_succ, HN.out, HC.out]; rfl, hb2⟩
        case measure => simp [intOf]; omega
      · go_wp2_with fail
        refine (care _ R d true l ?_).mono ?_
        · have := E3.out
          rw [HC.out] at this
          exact this.kept (fun b _ hb' => Below.block (B := w.heap.size) (w := w) (by go_grown) b hb')
        rintro e w2 ⟨rfl, h2⟩
        have hb2 : Below w.heap.size w w2 := by
          refine Below.trans ?_ (h2.mono ?_)
          · go_grown
          · go_size
        clear h2
        go_wp2
        go_ret
        exact ⟨ret_bool (by rw [anyC_hit zs HC.out hlt]), hb2⟩
    · obtain rfl : k = N := by omega
      go_wp2
      go_ret
      exact ⟨ret_bool HN.out.symm, hb⟩

theorem zzb_yes (a : Option Addr) (len cap : Nat) (w : World) (h : len ≤ 1048576) : Calls Try.prog 11 #[.slice a len cap] w fun e w' => e = .returned (.bool true) ∧ w = w' := by
  go_enter Try.func11, Try.ntmps11
  go_wp2
  go_ret
  exact ⟨rfl, rfl⟩
theorem zzb_no (a : Option Addr) (len cap : Nat) (w : World) (hm : len ≤ 9223372036854775807) (h : 1048576 < len) : Calls Try.prog 11 #[.slice a len cap] w fun e w' => e = .returned (.bool false) ∧ w = w' := by
  go_enter Try.func11, Try.ntmps11
  go_wp2
  go_ret
  exact ⟨rfl, rfl⟩

theorem build_nil (w : World) : Calls Try.prog 12 #[.slice none 0 0] w fun e w' => e = .returned (.slice none 0 0) ∧ w = w' := by
  have hnil := fun W => Lib.run_eql_slice_nil (P := Try.prog) W 48 53 none 0 0 0 0 Try.underlying48
  go_enter Try.func12, Try.ntmps12
  go_wp2
  go_ret
  exact ⟨rfl, rfl⟩

theorem any_nil (w : World) : Calls Try.prog 19 #[.slice none 0 0] w fun e w' => e = .returned (.bool false) ∧ w = w' := by
  go_enter Try.func19, Try.ntmps19
  go_wp2
  go_rounds 1
  go_ret
  exact ⟨rfl, rfl⟩

theorem walk_nil (w : World) : Calls Try.prog 5 #[.slice none 0 0] w fun e w' => e = .returned (.bool true) ∧ Below w.heap.size w w' := by
  go_enter Try.func5, Try.ntmps5
  go_wp2_with fail
  refine (zzb_yes _ _ _ _ (by omega)).mono ?_
  rintro e w1 ⟨rfl, rfl⟩
  go_wp2_with fail
  refine (build_nil _).mono ?_
  rintro e w1 ⟨rfl, rfl⟩
  go_wp2_with fail
  refine wp_loop_rounds 1 ?_
  rw [rounds_succ]
  go_wp2_with (first | (go_at_call 19; refine (any_nil _).mono ?_; rintro e w1 ⟨rfl, rfl⟩) | go_in)
  go_ret
  exact ⟨rfl, Below.refl _ _⟩

theorem walk (a0 : Option Addr) (len0 cap0 : Nat) (z0 : List Int) (w : World) (w0 : IsRow .i8 w a0 len0 cap0 z0) :
    Calls Try.prog 5 #[.slice a0 len0 cap0] w fun e w' => e = .returned (.bool true) ∧ Below w.heap.size w w' := by
  rcases w0 with ⟨rfl, rfl, rfl, rfl⟩ | ⟨x, rfl, hl, hm, hz, hcell, hwz⟩
  · exact walk_nil w
  unfold maxLen at hm
  by_cases h1 : 1048576 < len0
  · clear hcell hwz hz
    go_enter Try.func5, Try.ntmps5
    go_wp2_with fail
    refine (zzb_no _ _ _ _ (by omega) h1).mono ?_
    rintro e w1 ⟨rfl, rfl⟩
    go_wp2
    go_ret
    exact ⟨rfl, Below.refl _ _⟩
  by_cases h2 : 65536 < len0
  · clear hcell hwz hz
    go_enter Try.func5, Try.ntmps5
    go_wp2_with fail
    refine (zzb_yes _ _ _ _ (by omega)).mono ?_
    rintro e w1 ⟨rfl, rfl⟩
    go_wp2
    go_ret
    exact ⟨rfl, Below.refl _ _⟩
  have hn : len0 ≤ 65536 := by omega
  have hwf : ∀ i, i < len0 → -128 ≤ z0.getD i 0 ∧ z0.getD i 0 ≤ 127 := by
    intro i hi
    have := bounds_i8 (hwz (z0.getD i 0) (by rw [List.getD_eq_getElem?_getD, List.getElem?_eq_getElem (by omega)]; simp))
    omega
  have HC := Lib.hid (fun i (hi : i < len0) => hcell i (by omega))
  have HW := Lib.hid hwf
  clear hcell hwz hwf hz h1 h2
  go_enter Try.func5, Try.ntmps5
  go_wp2_with fail
  refine (zzb_yes _ _ _ _ (by omega)).mono ?_
  rintro e w1 ⟨rfl, rfl⟩
  go_wp2_with fail
  refine (build x len0 cap0 z0 _ hn hl HC.out HW.out).mono ?_
  rintro e w1 ⟨rfl, hB, hb⟩
  have HBu := Lib.hid hB
  clear hB
  go_wp2_with fail
  go_loop [4, 5] (fun v4 v5 => ∃ k : Nat, k ≤ len0 ∧ v5 = .int .i64 k ∧ v4 = .bool (anyC z0 k)) (fun _ v5 => len0 - (intOf v5).toNat)
  case atStart => exact ⟨0, Nat.zero_le _, rfl, rfl⟩
  case round =>
    obtain ⟨k, hk, rfl, rfl⟩ := hrel
    by_cases hlt : k < len0
    · obtain ⟨z, hz⟩ : ∃ z, z0.getD k 0 = z := ⟨_, rfl⟩
      have hc := later (HC.out k hlt) hb
      have hw := HW.out k hlt
      rw [hz] at hc hw
      have hs := anyC_succ z0 k
      rw [hz] at hs
      have HS := Lib.hid hs
      clear hz hs
      by_cases hcd : 20 ≤ z % 26
      · go_wp2_with fail
        refine (norm z _ hw.1 hw.2).mono ?_
        rintro e w2 ⟨rfl, rfl⟩
        go_wp2
        go_round
        case rel => exact ⟨k + 1, by omega, by go_num, by rw [HS.out, decide_eq_true hcd]; simp⟩
        case measure => simp [intOf]; omega
      · go_wp2_with fail
        refine (norm z _ hw.1 hw.2).mono ?_
        rintro e w2 ⟨rfl, rfl⟩
        go_wp2
        go_round
        case rel => exact ⟨k + 1, by omega, by go_num, by rw [HS.out, decide_eq_false (by omega)]; simp⟩
        case measure => simp [intOf]; omega
    · obtain rfl : k = len0 := by omega
      obtain ⟨B, hBB⟩ : ∃ B, anyC z0 k = B := ⟨_, rfl⟩
      have HBB := Lib.hid hBB
      simp only [hBB]
      clear hBB
      go_wp2_with (first | (go_at_call 15; go_in))
      refine (any19 _ _ z0 _ hn HBu.out).mono ?_
      rintro e w2 ⟨rfl, h2⟩
      rw [HBB.out]
      cases B
      all_goals
        go_wp2
        go_ret
        exact ⟨rfl, hb.trans (h2.mono hb.size)⟩

end Go.Proofs.Ytgefhkjidldjlab.fnStmtsCareAboutScopeIsAnyOfTable
