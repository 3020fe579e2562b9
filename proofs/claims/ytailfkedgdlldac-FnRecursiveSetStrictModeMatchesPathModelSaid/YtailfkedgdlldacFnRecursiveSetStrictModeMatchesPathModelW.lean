import Derived.Test.YtailfkedgdlldacKit
import Derived.Test.YtailfkedgdlldacRsE
import Derived.Test.YtailfkedgdlldacRsA
namespace Go.Proofs.Ytailfkedgdlldac.fnRecursiveSetStrictModeMatchesPathModel
open Go.ChangeShapes Go.WideShapes Go.ChangeAt Go.RowKit
set_option linter.unusedVariables false
set_option maxRecDepth 100000
set_option maxHeartbeats 2000000

theorem big (a0 : Option Addr) (len0 cap0 : Nat) (a1 : Option Addr) (len1 cap1 : Nat) (a2 : Int) (w : World) (h0 : len0 ≤ 9223372036854775807) (h1 : len1 ≤ 9223372036854775807) (h : 65536 < len0 ∨ 65536 < len1 ∨ 1048576 < 8 * len0 + len1) :
    Calls Try.prog 6 #[.slice a0 len0 cap0, .slice a1 len1 cap1, .int .u8 a2] w fun e w' => e = .returned (.bool true) ∧ Below w.heap.size w w' := by
  by_cases hA : 65536 < len0
  · clear h
    go_enter Try.func6, Try.ntmps6
    go_wp2_with fail
    refine (zz19 _ _ _ _ _ _ _ _ h0 h1).mono ?_
    rintro e w1 ⟨b, rfl, rfl, hb⟩
    cases b
    · go_wp2_with fail
      go_ret
      exact ⟨rfl, Below.refl _ _⟩
    · obtain ⟨q0, q1⟩ := hb rfl
      clear hb
      go_wp2_with fail
      go_ret
      exact ⟨rfl, Below.refl _ _⟩
  · by_cases hB : 65536 < len1
    · clear h
      go_enter Try.func6, Try.ntmps6
      go_wp2_with fail
      refine (zz19 _ _ _ _ _ _ _ _ h0 h1).mono ?_
      rintro e w1 ⟨b, rfl, rfl, hb⟩
      cases b
      · go_wp2_with fail
        go_ret
        exact ⟨rfl, Below.refl _ _⟩
      · obtain ⟨q0, q1⟩ := hb rfl
        clear hb
        go_wp2_with fail
        go_ret
        exact ⟨rfl, Below.refl _ _⟩
    · have hC : 1048576 < 8 * (len0 : Int) + len1 := by omega
      clear h
      go_enter Try.func6, Try.ntmps6
      go_wp2_with fail
      refine (zz19 _ _ _ _ _ _ _ _ h0 h1).mono ?_
      rintro e w1 ⟨b, rfl, rfl, hb⟩
      cases b
      · go_wp2_with fail
        go_ret
        exact ⟨rfl, Below.refl _ _⟩
      · obtain ⟨q0, q1⟩ := hb rfl
        clear hb
        go_wp2_with fail
        all_goals
          go_ret
          exact ⟨rfl, Below.refl _ _⟩

/-- A copy of whatever slice of integers: of the same length. -/
theorem copyI_any (a : Option Addr) (len cap : Nat) (z : List Int) (w : World) (hn : len ≤ 65536) (h : IsRow .i64 w a len cap z) : Calls Try.prog 20 #[.slice a len cap] w fun e w' => ∃ a' c', e = .returned (.slice a' len c') ∧ Below w.heap.size w w' := by
  rcases h with ⟨rfl, rfl, rfl, _⟩ | ⟨x, rfl, h1, h2, h3, h4, h5⟩
  · exact (copyI_nil w).mono fun e w' ⟨he, hw⟩ => ⟨_, _, he, by rw [← hw]; exact Below.refl _ _⟩
  · exact (copyI x len cap z w (by omega) (fun i hi => h4 i (by omega))).mono fun e w' ⟨he, _, hb⟩ => ⟨_, _, he, hb⟩
theorem copyB_any (a : Option Addr) (len cap : Nat) (w : World) (z : List Int) (W : World) (hW : Below w.heap.size w W) (hn : len ≤ 65536) (h : IsRow .u8 w a len cap z) : Calls Try.prog 21 #[.slice a len cap] W fun e w' => ∃ a' c', e = .returned (.slice a' len c') ∧ Below W.heap.size W w' := by
  rcases h with ⟨rfl, rfl, rfl, _⟩ | ⟨x, rfl, h1, h2, h3, h4, h5⟩
  · exact (copyB_nil W).mono fun e w' ⟨he, hw⟩ => ⟨_, _, he, by rw [← hw]; exact Below.refl _ _⟩
  · exact (copyB x len cap z W (by omega) (fun i hi => later (h4 i (by omega)) hW)).mono fun e w' ⟨he, _, hb⟩ => ⟨_, _, he, hb⟩

theorem odd (a0 : Option Addr) (len0 cap0 : Nat) (z0 : List Int) (a1 : Option Addr) (len1 cap1 : Nat) (z1 : List Int) (a2 : Int) (w : World) (w0 : IsRow .i64 w a0 len0 cap0 z0) (w1 : IsRow .u8 w a1 len1 cap1 z1) (h0 : len0 ≤ 65536) (h1 : len1 ≤ 65536) (hs : 8 * len0 + len1 ≤ 1048576) (h : len0 ≠ len1 ∨ len0 = 0) :
    Calls Try.prog 6 #[.slice a0 len0 cap0, .slice a1 len1 cap1, .int .u8 a2] w fun e w' => e = .returned (.bool true) ∧ Below w.heap.size w w' := by
  have W0 := Lib.hid w0
  have W1 := Lib.hid w1
  have HH := Lib.hid h
  clear w0 w1 h
  go_enter Try.func6, Try.ntmps6
  go_wp2_with fail
  refine (zz19 _ _ _ _ _ _ _ _ (by omega) (by omega)).mono ?_
  rintro e w1 ⟨b, rfl, rfl, hb⟩
  cases b
  · go_wp2_with fail
    go_ret
    exact ⟨rfl, Below.refl _ _⟩
  · clear hb
    go_wp2_with fail
    refine (copyI_any a0 len0 cap0 z0 _ h0 W0.out).mono ?_
    rintro e w2 ⟨b0, d0, rfl, b2⟩
    go_wp2_with fail
    refine (copyB_any a1 len1 cap1 w z1 _ b2 h1 W1.out).mono ?_
    rintro e w3 ⟨b1, d1, rfl, b3⟩
    have B3 := b2.trans (b3.mono b2.size)
    clear b2 b3
    go_wp2_with fail
    refine (shape_no _ _ _ _ _ _ _ HH.out).mono ?_
    rintro e w4 ⟨rfl, rfl⟩
    go_wp2_with fail
    go_ret
    exact ⟨rfl, B3⟩

theorem fr_row {w w' : World} {n R : Nat} {P : Nat → Nat} {cs : Array Value} {t : TypeId} (hf : Fr (PX P n) w w') (hr : RowAt w R cs t) (ht : t ≠ 75) (hp : ∀ j, j < n → ∃ ds, RowAt w (P j) ds 75) : w'.heap[R]? = w.heap[R]? := by
  refine hf.block R hr.lt ?_
  rintro ⟨j, hj, e⟩
  obtain ⟨ds, d1⟩ := hp j hj
  exact hr.ne d1 ht e

theorem main (x0 x1 : Addr) (n cap0 cap1 : Nat) (z0 z1 : List Int) (kind : Int) (w : World) (h0 : n ≤ 65536) (h1 : 1 ≤ n) (hs : 8 * n + n ≤ 1048576) (hc0 : ∀ i, i < n → w.cell? (x0.add i) = some (.int .i64 (z0.getD i 0))) (hc1 : ∀ i, i < n → w.cell? (x1.add i) = some (.int .u8 (z1.getD i 0))) :
    Calls Try.prog 6 #[.slice (some x0) n cap0, .slice (some x1) n cap1, .int .u8 kind] w fun e w' => e = .returned (.bool true) ∧ Below w.heap.size w w' := by
  obtain ⟨i0, hi, hz0, hz1, hz2⟩ := info_parts info4
  have HC0 := Lib.hid hc0
  have HC1 := Lib.hid hc1
  clear hc0 hc1
  go_enter Try.func6, Try.ntmps6
  go_wp2_with fail
  refine (zz19 _ _ _ _ _ _ _ _ (by omega) (by omega)).mono ?_
  rintro e w1 ⟨b, rfl, rfl, hb⟩
  cases b
  · go_wp2_with fail
    go_ret
    exact ⟨rfl, Below.refl _ _⟩
  clear hb
  go_wp2_with fail
  refine (copyI x0 n cap0 z0 _ (by omega) HC0.out).mono ?_
  rintro e w2 ⟨rfl, r2, b2⟩
  have R2 := Lib.hid r2
  clear r2
  go_wp2_with fail
  refine (copyB x1 n cap1 z1 _ (by omega) (fun i hi => later (HC1.out i hi) b2)).mono ?_
  rintro e w3 ⟨rfl, r3, b3⟩
  have R3 := Lib.hid r3
  have R23 := Lib.hid (R2.out.below b3 R2.out.lt)
  have B3 : Below w.heap.size w w3 := b2.trans (b3.mono b2.size)
  have z23 : w.heap.size < w2.heap.size := R2.out.lt
  clear r3 b2 b3 R2
  go_wp2_with fail
  refine (shape_yes w.heap.size n _ _ _ z0 _ h1 h0 (fun i hi => R23.out.cell hi)).mono ?_
  rintro e w4 ⟨b, rfl, rfl, hb⟩
  cases b
  · go_wp2_with fail
    go_ret
    exact ⟨rfl, B3⟩
  have HPR := Lib.hid (hb rfl)
  clear hb
  obtain ⟨par, hpar⟩ : ∃ par : Nat → Nat, par = fun i => (z0.getD i 0).toNat := ⟨_, rfl⟩
  have HP : Hid (∀ i, 0 < i → i < n → z0.getD i 0 = ((par i : Nat) : Int) ∧ par i < i) := fun i q1 q2 => by
    have := HPR.out i q1 q2
    subst hpar
    simp only
    omega
  clear hpar HPR
  have z3 := B3.size
  go_wp2_with (at_make; refine wpList_make_full _ rfl _ _ 58 rfl w.heap.size 4 i0 _ 1 Try.underlying58 hi hz0 hz1 .i64 .i64 _ _ n rfl rfl rfl rfl (by rw [hz2]; omega) (by unfold maxLen; omega) (by omega) ?_)
  intro w5 hown hgrow
  have hb5 : Below w3.heap.size w3 w5 := (Below.refl _ _).grown hgrow (Nat.le_refl _) (fun k hk => by cases hk)
  have hR5 : Hid (Cells w5 w3.heap.size 4 n (fun j => .bool (if j < 0 then rch par (fun i => z1.getD i 0) j else false))) := (made1 hown).congr fun i _ => by simp
  clear hown hgrow hi hz0 hz1 hz2 i0
  go_wp2_with fail
  go_loopw [9] (fun v9 wr => ∃ k : Nat, k ≤ n ∧ v9 = .int .i64 k ∧ Cells wr w3.heap.size 4 n (fun j => .bool (if j < k then rch par (fun i => z1.getD i 0) j else false)) ∧ Below w3.heap.size w3 wr) (fun v9 _ => n - (intOf v9).toNat)
  case atStart => exact ⟨0, Nat.zero_le _, rfl, hR5.out, hb5⟩
  case round =>
    obtain ⟨k, hk, rfl, hC, hb⟩ := hrel
    have HC := Lib.hid hC
    clear hC hR5 hb5
    by_cases hlt : k < n
    · have m0 : wr.cell? ⟨w2.heap.size, k, none⟩ = some (.int .u8 (z1.getD k 0)) := later (R3.out.cell hlt) hb
      obtain ⟨v, hv⟩ : ∃ v, z1.getD k 0 = v := ⟨_, rfl⟩
      rw [hv] at m0
      have HV := Lib.hid hv
      have q0 := HC.out.cell hlt
      have q1 := HC.out.frozen k
      simp only [Nat.lt_irrefl, if_false] at q0
      have zz := HC.out.lt
      clear hv
      have stp : ∀ b, rch par (fun i => z1.getD i 0) k = b → Cells (wr.setCell ⟨w3.heap.size, k, none⟩ (.bool b)) w3.heap.size 4 n (fun j => .bool (if j < k + 1 then rch par (fun i => z1.getD i 0) j else false)) := fun b hb => (HC.out.set k (.bool b)).congr fun j hj => by
        unfold upd
        by_cases e : j = k
        · rw [if_pos e, if_pos (by omega), e, hb]
        · rw [if_neg e]
          show Value.bool (if j < k then _ else _) = _
          by_cases e2 : j < k
          · rw [if_pos e2, if_pos (by omega)]
          · rw [if_neg e2, if_neg (by omega)]
      have STP := Lib.hid stp
      clear stp
      by_cases h0' : v = 0
      · have hv0 : (v == 0) = true := by simpa using h0'
        have HZ : Hid (z1.getD k 0 = 0) := by unfold Hid; rw [HV.out]; exact h0'
        clear h0'
        by_cases hk0 : k = 0
        · subst hk0
          go_wp2_with fail
          go_roundw
          case rel => exact ⟨1, by omega, rfl, STP.out true (rch_zero par _ HZ.out), by go_grown⟩
          case measure => simp [intOf]; omega
        · have hkb : (k == 0) = false := by simpa using hk0
          have hkb' : ((k : Int) == 0) = false := by simp; omega
          have hk1 : 0 < k := by omega
          obtain ⟨e1, e2⟩ := HP.out k hk1 hlt
          obtain ⟨q, hq⟩ : ∃ q, par k = q := ⟨_, rfl⟩
          have p0 : wr.cell? ⟨w.heap.size, k, none⟩ = some (.int .i64 (q : Int)) := by
            have := later (R23.out.cell hlt) hb
            rw [e1, hq] at this
            exact this
          have c0 := HC.out.cell (i := q) (by omega)
          obtain ⟨t, ht⟩ : ∃ t, rch par (fun i => z1.getD i 0) q = t := ⟨_, rfl⟩
          rw [if_pos (by omega), ht] at c0
          have HT : Hid (rch par (fun i => z1.getD i 0) k = t) := by
            unfold Hid
            rw [rch_succ par _ k hk1 HZ.out, hq, ht]
          have hql : q < k := by omega
          clear e1 e2 hq ht hk0
          go_wp2_with fail
          go_roundw
          case rel => exact ⟨k + 1, by omega, by go_num, STP.out t HT.out, by go_grown⟩
          case measure => simp [intOf]; omega
      · have hv0 : (v == 0) = false := by simpa using h0'
        have HZ : Hid (z1.getD k 0 ≠ 0) := by unfold Hid; rw [HV.out]; exact h0'
        clear h0'
        have HN : Hid (Cells wr w3.heap.size 4 n (fun j => .bool (if j < k + 1 then rch par (fun i => z1.getD i 0) j else false))) := HC.out.congr fun j hj => by
          by_cases e : j = k
          · rw [if_neg (by omega), if_pos (by omega), e, rch_no par _ k HZ.out]
          · by_cases e2 : j < k
            · rw [if_pos e2, if_pos (by omega)]
            · rw [if_neg e2, if_neg (by omega)]
        go_wp2_with fail
        go_roundw
        case rel => exact ⟨k + 1, by omega, by go_num, HN.out, hb⟩
        case measure => simp [intOf]; omega
    · obtain rfl : k = n := by omega
      clear hlt
      have hsz := hb.size
      obtain ⟨wo, rfl⟩ : ∃ wo : World, wo = wr := ⟨_, rfl⟩
      go_wp2_with fail
      refine (build23 w.heap.size w2.heap.size k z0 z1 par _ h1 h0 (fun i hi => later (R23.out.cell hi) hb) (fun i hi => later (R3.out.cell hi) hb) HP.out).mono ?_
      rintro e w6 ⟨P, V, rfl, hG, b6⟩
      have HG := Lib.hid hG
      have HC6 := Lib.hid (HC.out.below b6 HC.out.lt)
      have M6 := Lib.hid ((R3.out.kept (hb.block _ R3.out.lt)).below b6 (by have := R3.out.lt; omega))
      have B6 : Below w.heap.size w w6 := (B3.trans (hb.mono z3)).trans (b6.mono (by omega))
      have s0 : w6.cell? ⟨wo.heap.size, 0, none⟩ = some (.pointer (some ⟨P 0, 0, none⟩)) := hG.cells.cell (by omega)
      clear hG b6 HC
      go_wp2_with fail
      refine (set24 wo.heap.size k P par (kids par k) kind h0 (fun i c hi => ?_) (fun i _ => kids_nodup par k i) (fun i _ => kids_len par k i) (fun y q1 q2 => (HP.out y q1 q2).2) (k + 1) 0 _ _ (by omega) (by omega) HG.out.tree).mono ?_
      · rw [kids_mem]
        constructor
        · rintro ⟨q1, q2, q3⟩
          exact ⟨q1, by have := (HP.out c q2 q3).2; omega, q3⟩
        · rintro ⟨q1, q2, q3⟩
          exact ⟨q1, by omega, q3⟩
      rintro e w7 ⟨rfl, hT7, f7⟩
      have hrows : ∀ j, j < k → ∃ ds, RowAt w6 (P j) ds 75 := fun j hj => by
        obtain ⟨ds, d1, _⟩ := HG.out.row j hj
        exact ⟨ds, d1⟩
      have C7 : Hid (Cells w7 w3.heap.size 4 k (fun j => .bool (if j < k then rch par (fun i => z1.getD i 0) j else false))) := by
        obtain ⟨ds, d1, _⟩ := id HC6.out
        exact HC6.out.kept (fr_row f7 d1 (by decide) hrows)
      have M7 : Hid (RowUpTo w7 w2.heap.size 5 k k (fun i => .int .u8 (z1.getD i 0))) := by
        obtain ⟨ds, d1, _⟩ := id M6.out
        exact M6.out.kept (fr_row f7 d1 (by decide) hrows)
      have S7 : Hid (Cells w7 wo.heap.size 61 k (ptrV P)) := by
        obtain ⟨ds, d1, _⟩ := id HG.out.cells
        exact HG.out.cells.kept (fr_row f7 d1 (by decide) hrows)
      have T7 := Lib.hid hT7
      have B7 : Below w.heap.size w w7 := B6.trans (f7.below (by rintro j ⟨i, hi, rfl⟩; have := HG.out.ge i hi; omega) B6.size)
      clear hT7 f7 hrows HG HC6 M6 B6 s0 hb B3 R3 R23
      go_wp2_with fail
      go_loop [11, 12] (fun v11 _ => ∃ i : Nat, i ≤ k ∧ v11 = .int .i64 i) (fun v11 _ => k - (intOf v11).toNat)
      case atStart => exact ⟨0, Nat.zero_le _, rfl⟩
      case round =>
        obtain ⟨i, hik, rfl⟩ := hrel
        by_cases hlt : i < k
        · have q0 := M7.out.cell hlt
          have q1 := C7.out.cell hlt
          have q2 := S7.out.cell hlt
          obtain ⟨cs, v, t1, t2, t3, t4⟩ := T7.out.row i hlt
          have q3 := t1.cellv t2
          rw [rch_set] at q3
          simp only [ptrV] at q2
          rw [if_pos hlt] at q1
          obtain ⟨mm, hmm⟩ : ∃ mm, z1.getD i 0 = mm := ⟨_, rfl⟩
          simp only [hmm] at q0 q3
          obtain ⟨bb, hbb⟩ : ∃ bb, rch par (fun i => z1.getD i 0) i = bb := ⟨_, rfl⟩
          rw [hbb] at q1 q3
          clear t1 t2 t3 t4 hbb hmm
          cases bb
          · simp only [Bool.false_eq_true, if_false] at q3
            go_wp2_with fail
            go_round
            case rel => exact ⟨i + 1, by omega, by go_num⟩
            case measure => simp [intOf]; omega
          · simp only [if_true] at q3
            go_wp2_with fail
            go_round
            case rel => exact ⟨i + 1, by omega, by go_num⟩
            case measure => simp [intOf]; omega
        · obtain rfl : i = k := by omega
          go_wp2_with fail
          go_ret
          exact ⟨rfl, B7⟩

theorem walk (a0 : Option Addr) (len0 cap0 : Nat) (z0 : List Int) (a1 : Option Addr) (len1 cap1 : Nat) (z1 : List Int) (a2 : Int) (w : World) (w0 : IsRow .i64 w a0 len0 cap0 z0) (w1 : IsRow .u8 w a1 len1 cap1 z1) (w2 : (Lit.int .u8 a2).wf = true) :
    Calls Try.prog 6 #[.slice a0 len0 cap0, .slice a1 len1 cap1, .int .u8 a2] w fun e w' => e = .returned (.bool true) ∧ Below w.heap.size w w' := by
  have hl0 : len0 ≤ 9223372036854775807 := by
    rcases w0 with ⟨_, h1, _⟩ | ⟨x, _, h1, h2, _⟩
    · omega
    · unfold maxLen at h2; omega
  have hl1 : len1 ≤ 9223372036854775807 := by
    rcases w1 with ⟨_, h1, _⟩ | ⟨x, _, h1, h2, _⟩
    · omega
    · unfold maxLen at h2; omega
  by_cases h : 65536 < len0 ∨ 65536 < len1 ∨ 1048576 < 8 * len0 + len1
  · exact big a0 len0 cap0 a1 len1 cap1 a2 w hl0 hl1 h
  · by_cases h2 : len0 ≠ len1 ∨ len0 = 0
    · exact odd a0 len0 cap0 z0 a1 len1 cap1 z1 a2 w w0 w1 (by omega) (by omega) (by omega) h2
    · obtain rfl : len0 = len1 := by omega
      rcases w0 with ⟨_, g1, _⟩ | ⟨x0, rfl, g1, g2, g3, g4, g5⟩
      · omega
      rcases w1 with ⟨_, k1, _⟩ | ⟨x1, rfl, k1, k2, k3, k4, k5⟩
      · omega
      exact main x0 x1 len0 cap0 cap1 z0 z1 a2 w (by omega) (by omega) (by omega) (fun i hi => g4 i (by omega)) (fun i hi => k4 i (by omega))

end Go.Proofs.Ytailfkedgdlldac.fnRecursiveSetStrictModeMatchesPathModel
