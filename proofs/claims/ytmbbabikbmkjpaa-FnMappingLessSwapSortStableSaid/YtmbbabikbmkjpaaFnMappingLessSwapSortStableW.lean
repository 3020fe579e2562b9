import Derived.Test.YtmbbabikbmkjpaaKit
import Derived.Test.YtmbbabikbmkjpaaMsC
import Derived.IntWalk
namespace Go.Proofs.Ytmbbabikbmkjpaa.fnMappingLessSwapSortStable
open Go.ChangeShapes Go.WideShapes Go.ChangeAt Go.RowKit
set_option linter.unusedVariables false
set_option maxRecDepth 100000
set_option maxHeartbeats 2000000

/-- A slice of 32-bit numbers. -/
def Ints (w : World) (a : Option Addr) (n : Nat) (z : Nat → Int) : Prop := ∀ i, i < n → ∃ x, a = some x ∧ w.cell? (x.add i) = some (.int .i32 (z i)) ∧ i32b (z i)
theorem Ints.later {w w' : World} {a : Option Addr} {n : Nat} {z : Nat → Int} (h : Ints w a n z) (hb : Below w.heap.size w w') : Ints w' a n z := fun i hi => by
  obtain ⟨x, e, h1, h2⟩ := h i hi
  exact ⟨x, e, Proofs.Ytmbbabikbmkjpaa.later h1 hb, h2⟩
def Cl (n : Nat) (z : Nat → Int) (w : World) (e : Ending) (w' : World) : Prop := ∃ a c, e = .returned (.slice a n c) ∧ Ints w' a n z ∧ Below w.heap.size w w'
theorem cl13 (a : Option Addr) (n c : Nat) (zs : List Int) (w : World) (hn : n ≤ 4096) (h : (a = none ∧ n = 0 ∧ c = 0) ∨ ∃ x, a = some x ∧ ∀ i, i < n → w.cell? (x.add i) = some (.int .i32 (zs.getD i 0))) (hz : ∀ i, i < n → i32b (zs.getD i 0)) : Calls Try.prog 13 #[.slice a n c] w (Cl n (fun i => zs.getD i 0) w) := by
  rcases h with ⟨rfl, rfl, rfl⟩ | ⟨x, rfl, h⟩
  · refine (ci_nil w).mono ?_
    rintro e w' ⟨rfl, rfl⟩
    exact ⟨_, _, rfl, fun i hi => by omega, Below.refl _ _⟩
  · refine (ci x n c zs w (by omega) h).mono ?_
    rintro e w' ⟨rfl, hr, hb⟩
    exact ⟨_, _, rfl, fun i hi => ⟨_, rfl, hr.cellA hi, hz i hi⟩, hb⟩
theorem info45 : (Try.prog.info? 45).map (fun i => (i.zero, i.size, i.bytes)) = some (some (.agg #[.int .i32 0, .int .i32 0, .int .i32 0, .int .i32 0, .int .i32 0, .int .u32 0]), 6, 24) := by kernel_rfl
theorem info4 : (Try.prog.info? 4).map (fun i => (i.zero, i.size, i.bytes)) = some (some (.bool false), 1, 1) := by kernel_rfl
def sn (σ : Nat → Nat) (k i : Nat) : Bool := (List.range k).any fun p => σ p == i
theorem sn_succ (σ : Nat → Nat) (k i : Nat) : sn σ (k + 1) i = (sn σ k i || (σ k == i)) := by simp [sn, List.range_succ]
theorem sn_no {ky : Nat → Int} {n k : Nat} {σ : Nat → Nat} (h : Outer ky n n σ) (hk : k < n) : sn σ k (σ k) = false := by
  unfold sn
  rw [List.any_eq_false]
  intro p hp
  have hp' := List.mem_range.1 hp
  simp
  intro e
  have := h.inj p k (by omega) hk e
  omega
theorem quiet2 {P : Program} {f : FuncId} {args : Array Value} {w : World} {a n : Nat} {v : Value} (h : ∀ W, Calls P f args W fun e w' => e = .returned v ∧ W = w') :
    Calls P f args (w.drewN (a + n)) fun e w'' => e = .returned v ∧ ∃ m, w'' = w.drewN (a + m) := (h _).mono fun _ _ ⟨he, hm⟩ => ⟨he, n, hm.symm⟩
theorem quiet1 {P : Program} {f : FuncId} {args : Array Value} {w : World} {n : Nat} {v : Value} (h : ∀ W, Calls P f args W fun e w' => e = .returned v ∧ W = w') : Calls P f args (w.drewN n) fun e w'' => e = .returned v ∧ ∃ m, w'' = w.drewN m := (h _).mono fun _ _ ⟨he, hm⟩ => ⟨he, n, hm.symm⟩
theorem key17' (l c K : Int) (hl : i32b l) (hc : i32b c) (hK : l * 4294967296 + (c + 2147483648) = K) (W : World) : Calls Try.prog 17 #[.int .i32 l, .int .i32 c] W fun e w' => e = .returned (.int .i64 K) ∧ W = w' := by
  rw [← hK]
  exact key17 l c W hl hc
def OutR (ky : Nat → Int) (n q : Nat) (σ : Nat → Nat) : Prop := 1 ≤ q ∧ ((q ≤ n ∧ Outer ky n q σ) ∨ (n = 0 ∧ q = 1))
theorem OutR.start (ky : Nat → Int) (n : Nat) : OutR ky n 1 (fun p => p) := by
  refine ⟨Nat.le_refl _, ?_⟩
  by_cases h : 1 ≤ n
  · exact .inl ⟨h, Outer.first h⟩
  · exact .inr ⟨by omega, rfl⟩
theorem OutR.go {ky : Nat → Int} {n q : Nat} {σ : Nat → Nat} (h : OutR ky n q σ) (hq : q < n) : Outer ky n q σ := by
  rcases h.2 with ⟨_, h⟩ | ⟨h0, _⟩
  · exact h
  · omega
theorem OutR.done {ky : Nat → Int} {n q : Nat} {σ : Nat → Nat} (h : OutR ky n q σ) (hq : ¬ q < n) : Outer ky n n σ := by
  rcases h.2 with ⟨h1, h⟩ | ⟨h0, _⟩
  · obtain rfl : q = n := by omega
    exact h
  · subst h0
    exact ⟨fun p q h => by omega, fun p h => by omega, fun p h => by omega, fun p h1 h2 => by omega, fun p q h1 h2 => by omega⟩
def zc (b : Nat) : Value := if b = 5 then .int .u32 0 else .int .i32 0

set_option maxHeartbeats 8000000 in
theorem walk_n1 (a0 a1 : Option Addr) (n0 n1 c0 c1 : Nat) (z0 z1 : List Int) (w : World) (h0 : n0 ≤ 4096) (h1 : n1 ≤ 4096) (hlt0 : n1 < n0)
    (d0 : (a0 = none ∧ n0 = 0 ∧ c0 = 0) ∨ ∃ x, a0 = some x ∧ ∀ i, i < n0 → w.cell? (x.add i) = some (.int .i32 (z0.getD i 0))) (b0 : ∀ i, i < n0 → i32b (z0.getD i 0))
    (d1 : (a1 = none ∧ n1 = 0 ∧ c1 = 0) ∨ ∃ x, a1 = some x ∧ ∀ i, i < n1 → w.cell? (x.add i) = some (.int .i32 (z1.getD i 0))) (b1 : ∀ i, i < n1 → i32b (z1.getD i 0)) :
    Calls Try.prog 4 #[.slice a0 n0 c0, .slice a1 n1 c1] w fun e w' => e = .returned (.bool true) ∧ Below w.heap.size w w' := by
  obtain ⟨i0, hi, hz0, hz1, hz2⟩ := info_parts info45
  have D0 := Lib.hid d0
  have D1 := Lib.hid d1
  have E0 := Lib.hid b0
  have E1 := Lib.hid b1
  clear d0 d1 b0 b1
  go_enter Try.func4, Try.ntmps4
  go_wp2_with fail
  refine (zb12 _ _ _ _ _ _ _ (by omega) (by omega)).mono ?_
  rintro e u ⟨b, rfl, rfl⟩
  cases b
  · go_wp2_with fail
    go_ret
    exact ⟨rfl, Below.refl _ _⟩
  go_wp2_with fail
  refine (cl13 a0 n0 c0 z0 _ h0 D0.out E0.out).mono ?_
  rintro e w1 ⟨a0', c0', rfl, hI0, hb1⟩
  have HI0 := Lib.hid hI0
  have HB1 := Lib.hid hb1
  have D1' : Hid ((a1 = none ∧ n1 = 0 ∧ c1 = 0) ∨ ∃ x, a1 = some x ∧ ∀ i, i < n1 → w1.cell? (x.add i) = some (.int .i32 (z1.getD i 0))) := by
    rcases D1.out with h | ⟨x, e, h⟩
    · exact .inl h
    · exact .inr ⟨x, e, fun i hi => later (h i hi) hb1⟩
  clear hI0 hb1 D0 D1 E0
  go_wp2_with fail
  refine (cl13 a1 n1 c1 z1 _ h1 D1'.out E1.out).mono ?_
  rintro e w2 ⟨a1', c1', rfl, hI1, hb2⟩
  obtain ⟨L, hL⟩ : ∃ L : Nat → Int, (fun i => z0.getD i 0) = L := ⟨_, rfl⟩
  obtain ⟨C, hC⟩ : ∃ C : Nat → Int, (fun i => z1.getD i 0) = C := ⟨_, rfl⟩
  have HI1 := Lib.hid (hC ▸ hI1)
  have HI0' := Lib.hid ((hL ▸ HI0.out).later hb2)
  have HB2 := Lib.hid (HB1.out.trans (hb2.mono HB1.out.size))
  have HCB : Hid (∀ i, i < n1 → i32b (C i)) := fun i hi => by
    obtain ⟨_, _, _, h⟩ := HI1.out i (by omega)
    exact h
  have HLB : Hid (∀ i, i < n1 → i32b (L i)) := fun i hi => by
    obtain ⟨_, _, _, h⟩ := HI0'.out i (by omega)
    exact h
  clear hI1 hb2 hL hC HI0 HB1 D1' E1
  go_wp2_with (at_make; refine wpList_make_full _ rfl _ _ 41 rfl w2.heap.size 45 i0 _ 6 Try.underlying41 hi hz0 hz1 .i64 .i64 _ _ n1 rfl rfl rfl rfl (by rw [hz2]; omega) (by unfold maxLen; omega) (Nat.le_refl _) ?_)
  intro w3 hown hgrow
  obtain ⟨R, hR⟩ : ∃ R, w2.heap.size = R := ⟨_, rfl⟩
  have hS : Rec w3 w2.heap.size 45 6 n1 (fun p b => if p < 0 then mc L C p b else zc b) := (Rec.made hown rfl).congr fun i hi j hj => by
    have : j = 0 ∨ j = 1 ∨ j = 2 ∨ j = 3 ∨ j = 4 ∨ j = 5 := by omega
    rcases this with rfl | rfl | rfl | rfl | rfl | rfl <;> simp [zc]
  have hb3 : Below w2.heap.size w2 w3 := (Below.refl _ _).grown hgrow (Nat.le_refl _) (fun k hk => by cases hk)
  have HS := Lib.hid hS
  have HB3 := Lib.hid hb3
  clear hown hgrow hi hz0 hz1 hz2 i0 hS hb3 hR
  go_wp2_with fail
  go_loopw [7] (fun v7 wr => ∃ k : Nat, k ≤ n1 ∧ v7 = .int .i64 (k : Int) ∧ Rec wr w2.heap.size 45 6 n1 (fun p b => if p < k then mc L C p b else zc b) ∧ Below w2.heap.size w2 wr) (fun v7 _ => n1 - (intOf v7).toNat)
  case atStart => exact ⟨0, Nat.zero_le _, rfl, HS.out, HB3.out⟩
  case round =>
    clear HS HB3
    obtain ⟨k, hk, rfl, hS, hb⟩ := hrel
    have HS := Lib.hid hS
    have HB := Lib.hid hb
    have hbz := hb.size
    clear hS hb
    by_cases hlt : k < n1
    · obtain ⟨x0, rfl, p0, q0⟩ := HI0'.out k (by omega)
      obtain ⟨x1, rfl, p1, q1⟩ := HI1.out k (by omega)
      have p0' := later p0 HB.out
      have p1' := later p1 HB.out
      obtain ⟨l, hl⟩ : ∃ l, L k = l := ⟨_, rfl⟩
      obtain ⟨c, hc⟩ : ∃ c, C k = c := ⟨_, rfl⟩
      rw [hl] at p0' q0
      rw [hc] at p1' q1
      have HL := Lib.hid hl
      have HC := Lib.hid hc
      clear p0 p1 hl hc
      go_wp2_with fail
      refine (elem14 l k _ (by omega) q0).mono ?_
      rintro e w4 ⟨xx, rfl, hb4⟩
      obtain ⟨F, hF⟩ : ∃ F, fb k = F := ⟨_, rfl⟩
      rw [hF]
      have HF := Lib.hid hF
      have HS4 := Lib.hid (HS.out.below hb4 HS.out.lt)
      have p1'' := later p1' hb4
      have lx := cell_lt p1''
      have HB4 := Lib.hid (HB.out.trans (hb4.mono HB.out.size))
      have e0 := HS4.out.cell0 (i := k) hlt (by omega)
      have e1 := HS4.out.cell (i := k) hlt (j := 1) (by omega)
      have e2 := HS4.out.cell (i := k) hlt (j := 2) (by omega)
      have e3 := HS4.out.cell (i := k) hlt (j := 3) (by omega)
      have e4 := HS4.out.cell (i := k) hlt (j := 4) (by omega)
      have e5 := HS4.out.cell (i := k) hlt (j := 5) (by omega)
      have ef := HS4.out.frozen
      have ez := HS4.out.lt
      clear hb4 hF p0' p1'
      go_wp2_with fail
      go_roundw
      case rel =>
        refine ⟨k + 1, by omega, by go_num, ?_, by (go_grown; exact HB4.out)⟩
        refine (Rec.congr ((HS4.out.set6 hlt (.int .i32 l) (.int .i32 c) (.int .i32 (k : Int)) (.int .i32 ((k : Int) + 1)) (.int .i32 (-(k : Int))) (.int .u32 F)).alloc _) fun a ha b hb' => ?_)
        unfold updS2
        by_cases e : a = k
        · subst e
          rw [if_pos rfl, if_pos (by omega), mc, HL.out, HC.out, HF.out, f6]
        · rw [if_neg e]
          show (if a < k then mc L C a b else zc b) = _
          by_cases e2 : a < k
          · rw [if_pos e2, if_pos (by omega)]
          · rw [if_neg e2, if_neg (by omega)]
      case measure => simp [intOf]; omega
    obtain rfl : k = n1 := by omega
    have HR0 : Hid (Rec wr w2.heap.size 45 6 k (fun p b => mc L C p b)) := HS.out.congr fun p hp b hb => if_pos hp
    have HBO := HB
    clear HS HB hlt hbz
    go_wp2_with fail
    go_loopw [9] (fun v9 wr => ∃ (q : Nat) (σ : Nat → Nat), v9 = .int .i64 (q : Int) ∧ OutR (key L C) k q σ ∧ Rec wr w2.heap.size 45 6 k (fun p b => mc L C (σ p) b) ∧ Below w2.heap.size w2 wr) (fun v9 _ => k - (intOf v9).toNat)
    case atStart => exact ⟨1, fun p => p, rfl, OutR.start _ _, HR0.out, HBO.out⟩
    case round =>
      clear HR0 HBO
      obtain ⟨q, σ, rfl, hO, hr, hb⟩ := hrel
      have hq1 := hO.1
      have HOR := Lib.hid hO
      have HR := Lib.hid hr
      have HB := Lib.hid hb
      clear hO hr hb
      by_cases hlt : q < k
      · have HO := Lib.hid (HOR.out.go hlt)
        clear HOR
        go_wp2_with fail
        go_loopw [10] (fun v10 wr => ∃ (j : Nat) (σ : Nat → Nat), j ≤ q ∧ v10 = .int .i64 (j : Int) ∧ Inner (key L C) k q j σ ∧ Rec wr w2.heap.size 45 6 k (fun p b => mc L C (σ p) b) ∧ Below w2.heap.size w2 wr) (fun v10 _ => (intOf v10).toNat)
        case atStart => exact ⟨q, σ, Nat.le_refl _, rfl, HO.out.enter hlt, HR.out, HB.out⟩
        case round =>
          clear HO HR HB
          obtain ⟨j, σ', hj, rfl, hI, hr, hb⟩ := hrel
          have HI := Lib.hid hI
          have HR := Lib.hid hr
          have HB := Lib.hid hb
          clear hI hr hb
          by_cases hj0 : j = 0
          · have HL0 : Hid (Outer (key L C) k (q + 1) σ') := HI.out.leave hlt hj (fun j' e => by omega)
            subst hj0
            go_wp2_with fail
            go_roundw
            case rel => exact ⟨q + 1, σ', by go_num, ⟨by omega, .inl ⟨by omega, HL0.out⟩⟩, HR.out, HB.out⟩
            case measure => simp [intOf]; omega
          · obtain ⟨p, hp⟩ : ∃ p, j = p + 1 := ⟨j - 1, by omega⟩
            have hj1 : (j : Int) - 1 = (p : Int) := by omega
            have hjp : 0 < j := by omega
            have HP := Lib.hid hp
            obtain ⟨B, hB⟩ : ∃ B, lessB (L (σ' p)) (C (σ' p)) (L (σ' j)) (C (σ' j)) = B := ⟨_, rfl⟩
            have HBB := Lib.hid hB
            clear hp hj0 hB
            go_wp2_with fail
            refine (lessM L C w2.heap.size k k p j σ' _ HR.out (by have := HP.out; omega) (by omega) (by omega)).mono ?_
            rintro e w5 ⟨rfl, hb5⟩
            rw [HBB.out]
            have HR5 := Lib.hid (HR.out.below hb5 HR.out.lt)
            have HB5 := Lib.hid (HB.out.trans (hb5.mono HB.out.size))
            have HK : Hid (decide (key L C (σ' p) ≤ key L C (σ' j)) = B) := by
              have h1 := HI.out.rng p (by have := HP.out; omega)
              have h2 := HI.out.rng j (by omega)
              rw [← HBB.out, less_key (HCB.out _ h1) (HCB.out _ h2)]
              exact rfl
            clear hb5
            cases B
            · have HSW : Hid (Inner (key L C) k q p (swp σ' p j)) := by
                have h := HI.out
                have hk := of_decide_eq_false HK.out
                obtain rfl := HP.out
                exact h.swap hlt hj hk
              go_wp2_with fail
              refine (swapM L C w2.heap.size k k p j σ' _ HR5.out (by have := HP.out; omega) (by omega) (by omega)).mono ?_
              rintro e w6 ⟨rfl, hr6, hb6⟩
              have HR6 := Lib.hid hr6
              have HB6 := Lib.hid (hb6 _ _ HB5.out (Nat.le_refl _))
              clear hr6 hb6
              go_wp2_with fail
              go_roundw
              case rel => exact ⟨p, swp σ' p j, by have := HP.out; omega, rfl, HSW.out, HR6.out, HB6.out⟩
              case measure => have := HP.out; simp [intOf]; omega
            · have HL0 : Hid (Outer (key L C) k (q + 1) σ') := HI.out.leave hlt hj (fun j' e => by
                have h := of_decide_eq_true HK.out
                obtain rfl : j' = p := by have := HP.out; omega
                exact h)
              go_wp2_with fail
              go_roundw
              case rel => exact ⟨q + 1, σ', by go_num, ⟨by omega, .inl ⟨by omega, HL0.out⟩⟩, HR5.out, HB5.out⟩
              case measure => simp [intOf]; omega
      have HO := Lib.hid (HOR.out.done hlt)
      have hge : ¬ (q : Int) < (k : Int) := by omega
      clear hlt HOR
      obtain ⟨qn, rfl⟩ : ∃ y : Nat, y = q := ⟨_, rfl⟩
      obtain ⟨q, rfl⟩ : ∃ y : Nat, y = k := ⟨_, rfl⟩
      obtain ⟨wA, rfl⟩ : ∃ wA : World, wA = wr := ⟨_, rfl⟩
      obtain ⟨i4, ji, jz0, jz1, jz2⟩ := info_parts info4
      go_wp2_with (at_make; refine wpList_make_full _ rfl _ _ 49 rfl wA.heap.size 4 i4 _ 1 Try.underlying49 ji jz0 jz1 .i64 .i64 _ _ q rfl rfl rfl rfl (by rw [jz2]; omega) (by unfold maxLen; omega) (Nat.le_refl _) ?_)
      intro wB hown hgrow
      have hC0 := Cells.made (z := #[.bool false]) (size := 1) (n := q) (R := wA.heap.size) (w := wB) (B := wA.heap.size) (E := 4) (by simpa using hown)
      rw [Nat.mul_one] at hC0
      have HC0 : Hid (Cells wB wA.heap.size 4 q (fun i => .bool (sn σ 0 i))) := hC0.congr fun i hi => by simp [sn, Nat.mod_one, Value.cells]
      have hbAB : Below wA.heap.size wA wB := (Below.refl _ _).grown hgrow (Nat.le_refl _) (fun k hk => by cases hk)
      have HAB := Lib.hid hbAB
      have hRA := HR.out.lt
      have HRI := HR
      clear hown hgrow hC0 hbAB ji jz0 jz1 jz2 i4 HR
      go_wp2_with fail
      go_loopw [12] (fun v12 wr => ∃ k : Nat, k ≤ q ∧ v12 = .int .i64 (k : Int) ∧ Cells wr wA.heap.size 4 q (fun i => .bool (sn σ k i)) ∧ Below wA.heap.size wA wr) (fun v12 _ => q - (intOf v12).toNat)
      case atStart => exact ⟨0, Nat.zero_le _, rfl, HC0.out, HAB.out⟩
      case round =>
        clear HC0 HAB
        obtain ⟨k, hk, rfl, hC, hb⟩ := hrel
        have HCS := Lib.hid hC
        have HBA := Lib.hid hb
        have hzA := hb.size
        clear hC hb
        by_cases hlt : k < q
        · obtain ⟨s, hs⟩ : ∃ s, σ k = s := ⟨_, rfl⟩
          have hsq : s < q := hs ▸ HO.out.rng k hlt
          have H := HRI.out.below HBA.out hRA
          obtain ⟨l, hl⟩ : ∃ l, L s = l := ⟨_, rfl⟩
          obtain ⟨c, hc⟩ : ∃ c, C s = c := ⟨_, rfl⟩
          obtain ⟨F, hF⟩ : ∃ F, fb s = F := ⟨_, rfl⟩
          have m2 : wr.cell? ⟨w2.heap.size, k * 6 + 2, none⟩ = some (.int .i32 (s : Int)) := (H.cell hlt (j := 2) (by omega)).trans (by rw [← hs]; rfl)
          have hsn := sn_no HO.out hlt
          rw [hs] at hsn
          have s0 : wr.cell? ⟨wA.heap.size, s, none⟩ = some (.bool false) := HCS.out.cellv hsq (by rw [hsn])
          have sf := HCS.out.frozen
          obtain ⟨x0, ex0, p0, q0⟩ := HI0'.out s (by omega)
          obtain ⟨x1, ex1, p1, q1⟩ := HI1.out s (by omega)
          have B2A := HB.out.trans (HBA.out.mono HB.out.size)
          have p0' := later p0 B2A
          have p1' := later p1 B2A
          have lp0 := cell_lt p0
          have lp1 := cell_lt p1
          rw [hl] at p0' q0
          rw [hc] at p1' q1
          have nR : ¬ w2.heap.size = wA.heap.size := by omega
          subst ex0
          subst ex1
          have g0 : (wr.setCell ⟨wA.heap.size, s, none⟩ (.bool true)).cell? (x0.add s) = some (.int .i32 l) := by
            rw [World.cell?_setCell_other _ _ _ _ (fun e => by have := lp0; rw [← e] at this; simp at this; omega)]; exact p0'
          have g1 : (wr.setCell ⟨wA.heap.size, s, none⟩ (.bool true)).cell? (x1.add s) = some (.int .i32 c) := by
            rw [World.cell?_setCell_other _ _ _ _ (fun e => by have := lp1; rw [← e] at this; simp at this; omega)]; exact p1'
          have HCN : Hid (Cells (wr.setCell ⟨wA.heap.size, s, none⟩ (.bool true)) wA.heap.size 4 q (fun i => .bool (sn σ (k + 1) i))) := (HCS.out.set s (.bool true)).congr fun i hi => by
            unfold upd
            rw [sn_succ, hs]
            by_cases e : i = s
            · subst e; simp
            · have e' : (s == i) = false := by simpa using fun h => e h.symm
              rw [if_neg e, e', Bool.or_false]
          have HRN := Lib.hid (H.set_other (show w2.heap.size ≠ wA.heap.size from nR) s (.bool true))
          have HBN : Hid (Below wA.heap.size wA (wr.setCell ⟨wA.heap.size, s, none⟩ (.bool true))) := HBA.out.setCell (Nat.le_refl _) _
          have HX := Lib.hid (show σ k = s ∧ L s = l ∧ C s = c ∧ fb s = F from ⟨hs, hl, hc, hF⟩)
          clear H p0 p1 hs hl hc hF hsn B2A p0' p1'
          go_wp2_with fail
          refine (elem14 l s _ (by omega) q0).mono ?_
          rintro e w5 ⟨xx, rfl, hb5⟩
          rw [HX.out.2.2.2]
          have H5 := HRN.out.below hb5 HRN.out.lt
          have HC5 := Lib.hid (HCN.out.below hb5 HCN.out.lt)
          have g1' := later g1 hb5
          have e0 : w5.cell? ⟨w2.heap.size, k * 6, none⟩ = some (.int .i32 l) := (H5.cell0 hlt (by omega)).trans (by rw [HX.out.1]; show some (Value.int .i32 (L s)) = _; rw [HX.out.2.1])
          have e1 : w5.cell? ⟨w2.heap.size, k * 6 + 1, none⟩ = some (.int .i32 c) := (H5.cell hlt (j := 1) (by omega)).trans (by rw [HX.out.1]; show some (Value.int .i32 (C s)) = _; rw [HX.out.2.2.1])
          have e2 : w5.cell? ⟨w2.heap.size, k * 6 + 2, none⟩ = some (.int .i32 (s : Int)) := (H5.cell hlt (j := 2) (by omega)).trans (by rw [HX.out.1]; rfl)
          have e3 : w5.cell? ⟨w2.heap.size, k * 6 + 3, none⟩ = some (.int .i32 ((s : Int) + 1)) := (H5.cell hlt (j := 3) (by omega)).trans (by rw [HX.out.1]; rfl)
          have e4 : w5.cell? ⟨w2.heap.size, k * 6 + 4, none⟩ = some (.int .i32 (-(s : Int))) := (H5.cell hlt (j := 4) (by omega)).trans (by rw [HX.out.1]; rfl)
          have e5 : w5.cell? ⟨w2.heap.size, k * 6 + 5, none⟩ = some (.int .u32 F) := (H5.cell hlt (j := 5) (by omega)).trans (by rw [HX.out.1]; show some (Value.int .u32 (fb s)) = _; rw [HX.out.2.2.2])
          have lR := H5.lt
          have lx1 := cell_lt g1'
          have HB5 := Lib.hid (HBN.out.trans (hb5.mono HBN.out.size))
          have lA : wA.heap.size < w5.heap.size := HC5.out.lt
          clear hb5 H5 g0 g1 m2 s0 sf HCN HRN HBN
          go_wp2_with fail
          go_quiet (fail)
          go_wp2_with fail
          go_roundw
          case rel => exact ⟨k + 1, by omega, by go_num, (HC5.out.alloc _).drewN _, below_drewN (HB5.out.alloc (by omega) _) _⟩
          case measure => simp [intOf]; omega
        obtain rfl : k = q := by omega
        clear hlt
        obtain ⟨wC, rfl⟩ : ∃ wC : World, wC = wr := ⟨_, rfl⟩
        go_wp2_with fail
        go_loopw [15] (fun v15 wr => ∃ p : Nat, 1 ≤ p ∧ p ≤ k + 1 ∧ v15 = .int .i64 (p : Int) ∧ Below wA.heap.size wA wr) (fun v15 _ => k - (intOf v15).toNat)
        case atStart => exact ⟨1, Nat.le_refl _, by omega, rfl, HBA.out⟩
        case round =>
          clear HBA HCS hzA
          obtain ⟨p, hp1, hp, rfl, hb⟩ := hrel
          have HBC := Lib.hid hb
          have hzC := hb.size
          clear hb
          by_cases hlt : p < k
          · obtain ⟨r, hr⟩ : ∃ r, p = r + 1 := ⟨p - 1, by omega⟩
            have H := HRI.out.below HBC.out hRA
            have hnx : Lt (key L C) (σ r) (σ p) := by rw [hr]; exact HO.out.next (by omega)
            obtain ⟨s1, hs1⟩ : ∃ s, σ r = s := ⟨_, rfl⟩
            obtain ⟨s2, hs2⟩ : ∃ s, σ p = s := ⟨_, rfl⟩
            have hs1k : s1 < k := hs1 ▸ HO.out.rng r (by omega)
            have hs2k : s2 < k := hs2 ▸ HO.out.rng p hlt
            obtain ⟨l1, hl1⟩ : ∃ l, L s1 = l := ⟨_, rfl⟩
            obtain ⟨l2, hl2⟩ : ∃ l, L s2 = l := ⟨_, rfl⟩
            obtain ⟨x1, hx1⟩ : ∃ l, C s1 = l := ⟨_, rfl⟩
            obtain ⟨x2, hx2⟩ : ∃ l, C s2 = l := ⟨_, rfl⟩
            obtain ⟨K1, hK1⟩ : ∃ K, l1 * 4294967296 + (x1 + 2147483648) = K := ⟨_, rfl⟩
            obtain ⟨K2, hK2⟩ : ∃ K, l2 * 4294967296 + (x2 + 2147483648) = K := ⟨_, rfl⟩
            have KA := Lib.hid (key17' l1 x1 K1 (hl1 ▸ HLB.out _ hs1k) (hx1 ▸ HCB.out _ hs1k) hK1)
            have KB := Lib.hid (key17' l2 x2 K2 (hl2 ▸ HLB.out _ hs2k) (hx2 ▸ HCB.out _ hs2k) hK2)
            have c0 : wr.cell? ⟨w2.heap.size, r * 6, none⟩ = some (.int .i32 l1) := (H.cell0 (i := r) (by omega) (by omega)).trans (by rw [hs1]; show some (Value.int .i32 (L s1)) = _; rw [hl1])
            have c1 : wr.cell? ⟨w2.heap.size, r * 6 + 1, none⟩ = some (.int .i32 x1) := (H.cell (i := r) (by omega) (j := 1) (by omega)).trans (by rw [hs1]; show some (Value.int .i32 (C s1)) = _; rw [hx1])
            have c2 : wr.cell? ⟨w2.heap.size, r * 6 + 2, none⟩ = some (.int .i32 (s1 : Int)) := (H.cell (i := r) (by omega) (j := 2) (by omega)).trans (by rw [hs1]; rfl)
            have d0 : wr.cell? ⟨w2.heap.size, p * 6, none⟩ = some (.int .i32 l2) := (H.cell0 (i := p) hlt (by omega)).trans (by rw [hs2]; show some (Value.int .i32 (L s2)) = _; rw [hl2])
            have d1 : wr.cell? ⟨w2.heap.size, p * 6 + 1, none⟩ = some (.int .i32 x2) := (H.cell (i := p) hlt (j := 1) (by omega)).trans (by rw [hs2]; show some (Value.int .i32 (C s2)) = _; rw [hx2])
            have d2 : wr.cell? ⟨w2.heap.size, p * 6 + 2, none⟩ = some (.int .i32 (s2 : Int)) := (H.cell (i := p) hlt (j := 2) (by omega)).trans (by rw [hs2]; rfl)
            have hor : K1 < K2 ∨ (K1 = K2 ∧ s1 < s2) := by
              unfold Lt at hnx
              rw [hs1, hs2] at hnx
              unfold key at hnx
              rw [hl1, hl2, hx1, hx2, hK1, hK2] at hnx
              exact hnx
            have hrk : r < k := by omega
            have lR := H.lt
            have hw : IntKind.i64.wrap ((p : Int) - 1) = (r : Int) := by rw [IntWalk.i64_in _ (by omega)]; omega
            have hw' : (p : Int) - 1 = (r : Int) := by omega
            clear hr H hnx hs1 hs2 hl1 hl2 hx1 hx2 hK1 hK2
            rcases hor with hlt2 | ⟨rfl, hss⟩
            · have hne : (K1 == K2) = false := by simp; omega
              go_wp2_with fail
              go_quiet ((go_at_call 17; first | exact quiet1 KA.out | exact quiet2 KA.out))
              go_wp2_with fail
              go_quiet ((go_at_call 17; first | exact quiet2 KB.out | exact quiet1 KB.out))
              go_wp2_with fail
              go_quiet (fail)
              go_wp2_with fail
              go_roundw
              case rel => exact ⟨p + 1, by omega, by omega, by go_num, below_drewN HBC.out _⟩
              case measure => simp [intOf]; omega
            · have hss' : ¬ (s2 : Int) < (s1 : Int) := by omega
              clear hss
              go_wp2_with fail
              go_quiet ((go_at_call 17; first | exact quiet1 KA.out | exact quiet2 KA.out))
              go_wp2_with fail
              go_quiet ((go_at_call 17; first | exact quiet2 KB.out | exact quiet1 KB.out))
              go_wp2_with fail
              go_quiet (fail)
              go_wp2_with fail
              go_roundw
              case rel => exact ⟨p + 1, by omega, by omega, by go_num, below_drewN HBC.out _⟩
              case measure => simp [intOf]; omega
          have HFIN := Lib.hid (HB2.out.trans ((HB.out.trans (HBC.out.mono HB.out.size)).mono HB2.out.size))
          go_wp2_with fail
          go_ret
          exact ⟨rfl, HFIN.out⟩

set_option maxHeartbeats 8000000 in
theorem walk_n0 (a0 a1 : Option Addr) (n0 n1 c0 c1 : Nat) (z0 z1 : List Int) (w : World) (h0 : n0 ≤ 4096) (h1 : n1 ≤ 4096) (hlt0 : ¬ n1 < n0)
    (d0 : (a0 = none ∧ n0 = 0 ∧ c0 = 0) ∨ ∃ x, a0 = some x ∧ ∀ i, i < n0 → w.cell? (x.add i) = some (.int .i32 (z0.getD i 0))) (b0 : ∀ i, i < n0 → i32b (z0.getD i 0))
    (d1 : (a1 = none ∧ n1 = 0 ∧ c1 = 0) ∨ ∃ x, a1 = some x ∧ ∀ i, i < n1 → w.cell? (x.add i) = some (.int .i32 (z1.getD i 0))) (b1 : ∀ i, i < n1 → i32b (z1.getD i 0)) :
    Calls Try.prog 4 #[.slice a0 n0 c0, .slice a1 n1 c1] w fun e w' => e = .returned (.bool true) ∧ Below w.heap.size w w' := by
  obtain ⟨i0, hi, hz0, hz1, hz2⟩ := info_parts info45
  have D0 := Lib.hid d0
  have D1 := Lib.hid d1
  have E0 := Lib.hid b0
  have E1 := Lib.hid b1
  clear d0 d1 b0 b1
  go_enter Try.func4, Try.ntmps4
  go_wp2_with fail
  refine (zb12 _ _ _ _ _ _ _ (by omega) (by omega)).mono ?_
  rintro e u ⟨b, rfl, rfl⟩
  cases b
  · go_wp2_with fail
    go_ret
    exact ⟨rfl, Below.refl _ _⟩
  go_wp2_with fail
  refine (cl13 a0 n0 c0 z0 _ h0 D0.out E0.out).mono ?_
  rintro e w1 ⟨a0', c0', rfl, hI0, hb1⟩
  have HI0 := Lib.hid hI0
  have HB1 := Lib.hid hb1
  have D1' : Hid ((a1 = none ∧ n1 = 0 ∧ c1 = 0) ∨ ∃ x, a1 = some x ∧ ∀ i, i < n1 → w1.cell? (x.add i) = some (.int .i32 (z1.getD i 0))) := by
    rcases D1.out with h | ⟨x, e, h⟩
    · exact .inl h
    · exact .inr ⟨x, e, fun i hi => later (h i hi) hb1⟩
  clear hI0 hb1 D0 D1 E0
  go_wp2_with fail
  refine (cl13 a1 n1 c1 z1 _ h1 D1'.out E1.out).mono ?_
  rintro e w2 ⟨a1', c1', rfl, hI1, hb2⟩
  obtain ⟨L, hL⟩ : ∃ L : Nat → Int, (fun i => z0.getD i 0) = L := ⟨_, rfl⟩
  obtain ⟨C, hC⟩ : ∃ C : Nat → Int, (fun i => z1.getD i 0) = C := ⟨_, rfl⟩
  have HI1 := Lib.hid (hC ▸ hI1)
  have HI0' := Lib.hid ((hL ▸ HI0.out).later hb2)
  have HB2 := Lib.hid (HB1.out.trans (hb2.mono HB1.out.size))
  have HCB : Hid (∀ i, i < n0 → i32b (C i)) := fun i hi => by
    obtain ⟨_, _, _, h⟩ := HI1.out i (by omega)
    exact h
  have HLB : Hid (∀ i, i < n0 → i32b (L i)) := fun i hi => by
    obtain ⟨_, _, _, h⟩ := HI0'.out i (by omega)
    exact h
  clear hI1 hb2 hL hC HI0 HB1 D1' E1
  go_wp2_with (at_make; refine wpList_make_full _ rfl _ _ 41 rfl w2.heap.size 45 i0 _ 6 Try.underlying41 hi hz0 hz1 .i64 .i64 _ _ n0 rfl rfl rfl rfl (by rw [hz2]; omega) (by unfold maxLen; omega) (Nat.le_refl _) ?_)
  intro w3 hown hgrow
  obtain ⟨R, hR⟩ : ∃ R, w2.heap.size = R := ⟨_, rfl⟩
  have hS : Rec w3 w2.heap.size 45 6 n0 (fun p b => if p < 0 then mc L C p b else zc b) := (Rec.made hown rfl).congr fun i hi j hj => by
    have : j = 0 ∨ j = 1 ∨ j = 2 ∨ j = 3 ∨ j = 4 ∨ j = 5 := by omega
    rcases this with rfl | rfl | rfl | rfl | rfl | rfl <;> simp [zc]
  have hb3 : Below w2.heap.size w2 w3 := (Below.refl _ _).grown hgrow (Nat.le_refl _) (fun k hk => by cases hk)
  have HS := Lib.hid hS
  have HB3 := Lib.hid hb3
  clear hown hgrow hi hz0 hz1 hz2 i0 hS hb3 hR
  go_wp2_with fail
  go_loopw [7] (fun v7 wr => ∃ k : Nat, k ≤ n0 ∧ v7 = .int .i64 (k : Int) ∧ Rec wr w2.heap.size 45 6 n0 (fun p b => if p < k then mc L C p b else zc b) ∧ Below w2.heap.size w2 wr) (fun v7 _ => n0 - (intOf v7).toNat)
  case atStart => exact ⟨0, Nat.zero_le _, rfl, HS.out, HB3.out⟩
  case round =>
    clear HS HB3
    obtain ⟨k, hk, rfl, hS, hb⟩ := hrel
    have HS := Lib.hid hS
    have HB := Lib.hid hb
    have hbz := hb.size
    clear hS hb
    by_cases hlt : k < n0
    · obtain ⟨x0, rfl, p0, q0⟩ := HI0'.out k (by omega)
      obtain ⟨x1, rfl, p1, q1⟩ := HI1.out k (by omega)
      have p0' := later p0 HB.out
      have p1' := later p1 HB.out
      obtain ⟨l, hl⟩ : ∃ l, L k = l := ⟨_, rfl⟩
      obtain ⟨c, hc⟩ : ∃ c, C k = c := ⟨_, rfl⟩
      rw [hl] at p0' q0
      rw [hc] at p1' q1
      have HL := Lib.hid hl
      have HC := Lib.hid hc
      clear p0 p1 hl hc
      go_wp2_with fail
      refine (elem14 l k _ (by omega) q0).mono ?_
      rintro e w4 ⟨xx, rfl, hb4⟩
      obtain ⟨F, hF⟩ : ∃ F, fb k = F := ⟨_, rfl⟩
      rw [hF]
      have HF := Lib.hid hF
      have HS4 := Lib.hid (HS.out.below hb4 HS.out.lt)
      have p1'' := later p1' hb4
      have lx := cell_lt p1''
      have HB4 := Lib.hid (HB.out.trans (hb4.mono HB.out.size))
      have e0 := HS4.out.cell0 (i := k) hlt (by omega)
      have e1 := HS4.out.cell (i := k) hlt (j := 1) (by omega)
      have e2 := HS4.out.cell (i := k) hlt (j := 2) (by omega)
      have e3 := HS4.out.cell (i := k) hlt (j := 3) (by omega)
      have e4 := HS4.out.cell (i := k) hlt (j := 4) (by omega)
      have e5 := HS4.out.cell (i := k) hlt (j := 5) (by omega)
      have ef := HS4.out.frozen
      have ez := HS4.out.lt
      clear hb4 hF p0' p1'
      go_wp2_with fail
      go_roundw
      case rel =>
        refine ⟨k + 1, by omega, by go_num, ?_, by (go_grown; exact HB4.out)⟩
        refine (Rec.congr ((HS4.out.set6 hlt (.int .i32 l) (.int .i32 c) (.int .i32 (k : Int)) (.int .i32 ((k : Int) + 1)) (.int .i32 (-(k : Int))) (.int .u32 F)).alloc _) fun a ha b hb' => ?_)
        unfold updS2
        by_cases e : a = k
        · subst e
          rw [if_pos rfl, if_pos (by omega), mc, HL.out, HC.out, HF.out, f6]
        · rw [if_neg e]
          show (if a < k then mc L C a b else zc b) = _
          by_cases e2 : a < k
          · rw [if_pos e2, if_pos (by omega)]
          · rw [if_neg e2, if_neg (by omega)]
      case measure => simp [intOf]; omega
    obtain rfl : k = n0 := by omega
    have HR0 : Hid (Rec wr w2.heap.size 45 6 k (fun p b => mc L C p b)) := HS.out.congr fun p hp b hb => if_pos hp
    have HBO := HB
    clear HS HB hlt hbz
    go_wp2_with fail
    go_loopw [9] (fun v9 wr => ∃ (q : Nat) (σ : Nat → Nat), v9 = .int .i64 (q : Int) ∧ OutR (key L C) k q σ ∧ Rec wr w2.heap.size 45 6 k (fun p b => mc L C (σ p) b) ∧ Below w2.heap.size w2 wr) (fun v9 _ => k - (intOf v9).toNat)
    case atStart => exact ⟨1, fun p => p, rfl, OutR.start _ _, HR0.out, HBO.out⟩
    case round =>
      clear HR0 HBO
      obtain ⟨q, σ, rfl, hO, hr, hb⟩ := hrel
      have hq1 := hO.1
      have HOR := Lib.hid hO
      have HR := Lib.hid hr
      have HB := Lib.hid hb
      clear hO hr hb
      by_cases hlt : q < k
      · have HO := Lib.hid (HOR.out.go hlt)
        clear HOR
        go_wp2_with fail
        go_loopw [10] (fun v10 wr => ∃ (j : Nat) (σ : Nat → Nat), j ≤ q ∧ v10 = .int .i64 (j : Int) ∧ Inner (key L C) k q j σ ∧ Rec wr w2.heap.size 45 6 k (fun p b => mc L C (σ p) b) ∧ Below w2.heap.size w2 wr) (fun v10 _ => (intOf v10).toNat)
        case atStart => exact ⟨q, σ, Nat.le_refl _, rfl, HO.out.enter hlt, HR.out, HB.out⟩
        case round =>
          clear HO HR HB
          obtain ⟨j, σ', hj, rfl, hI, hr, hb⟩ := hrel
          have HI := Lib.hid hI
          have HR := Lib.hid hr
          have HB := Lib.hid hb
          clear hI hr hb
          by_cases hj0 : j = 0
          · have HL0 : Hid (Outer (key L C) k (q + 1) σ') := HI.out.leave hlt hj (fun j' e => by omega)
            subst hj0
            go_wp2_with fail
            go_roundw
            case rel => exact ⟨q + 1, σ', by go_num, ⟨by omega, .inl ⟨by omega, HL0.out⟩⟩, HR.out, HB.out⟩
            case measure => simp [intOf]; omega
          · obtain ⟨p, hp⟩ : ∃ p, j = p + 1 := ⟨j - 1, by omega⟩
            have hj1 : (j : Int) - 1 = (p : Int) := by omega
            have hjp : 0 < j := by omega
            have HP := Lib.hid hp
            obtain ⟨B, hB⟩ : ∃ B, lessB (L (σ' p)) (C (σ' p)) (L (σ' j)) (C (σ' j)) = B := ⟨_, rfl⟩
            have HBB := Lib.hid hB
            clear hp hj0 hB
            go_wp2_with fail
            refine (lessM L C w2.heap.size k k p j σ' _ HR.out (by have := HP.out; omega) (by omega) (by omega)).mono ?_
            rintro e w5 ⟨rfl, hb5⟩
            rw [HBB.out]
            have HR5 := Lib.hid (HR.out.below hb5 HR.out.lt)
            have HB5 := Lib.hid (HB.out.trans (hb5.mono HB.out.size))
            have HK : Hid (decide (key L C (σ' p) ≤ key L C (σ' j)) = B) := by
              have h1 := HI.out.rng p (by have := HP.out; omega)
              have h2 := HI.out.rng j (by omega)
              rw [← HBB.out, less_key (HCB.out _ h1) (HCB.out _ h2)]
              exact rfl
            clear hb5
            cases B
            · have HSW : Hid (Inner (key L C) k q p (swp σ' p j)) := by
                have h := HI.out
                have hk := of_decide_eq_false HK.out
                obtain rfl := HP.out
                exact h.swap hlt hj hk
              go_wp2_with fail
              refine (swapM L C w2.heap.size k k p j σ' _ HR5.out (by have := HP.out; omega) (by omega) (by omega)).mono ?_
              rintro e w6 ⟨rfl, hr6, hb6⟩
              have HR6 := Lib.hid hr6
              have HB6 := Lib.hid (hb6 _ _ HB5.out (Nat.le_refl _))
              clear hr6 hb6
              go_wp2_with fail
              go_roundw
              case rel => exact ⟨p, swp σ' p j, by have := HP.out; omega, rfl, HSW.out, HR6.out, HB6.out⟩
              case measure => have := HP.out; simp [intOf]; omega
            · have HL0 : Hid (Outer (key L C) k (q + 1) σ') := HI.out.leave hlt hj (fun j' e => by
                have h := of_decide_eq_true HK.out
                obtain rfl : j' = p := by have := HP.out; omega
                exact h)
              go_wp2_with fail
              go_roundw
              case rel => exact ⟨q + 1, σ', by go_num, ⟨by omega, .inl ⟨by omega, HL0.out⟩⟩, HR5.out, HB5.out⟩
              case measure => simp [intOf]; omega
      have HO := Lib.hid (HOR.out.done hlt)
      have hge : ¬ (q : Int) < (k : Int) := by omega
      clear hlt HOR
      obtain ⟨qn, rfl⟩ : ∃ y : Nat, y = q := ⟨_, rfl⟩
      obtain ⟨q, rfl⟩ : ∃ y : Nat, y = k := ⟨_, rfl⟩
      obtain ⟨wA, rfl⟩ : ∃ wA : World, wA = wr := ⟨_, rfl⟩
      obtain ⟨i4, ji, jz0, jz1, jz2⟩ := info_parts info4
      go_wp2_with (at_make; refine wpList_make_full _ rfl _ _ 49 rfl wA.heap.size 4 i4 _ 1 Try.underlying49 ji jz0 jz1 .i64 .i64 _ _ q rfl rfl rfl rfl (by rw [jz2]; omega) (by unfold maxLen; omega) (Nat.le_refl _) ?_)
      intro wB hown hgrow
      have hC0 := Cells.made (z := #[.bool false]) (size := 1) (n := q) (R := wA.heap.size) (w := wB) (B := wA.heap.size) (E := 4) (by simpa using hown)
      rw [Nat.mul_one] at hC0
      have HC0 : Hid (Cells wB wA.heap.size 4 q (fun i => .bool (sn σ 0 i))) := hC0.congr fun i hi => by simp [sn, Nat.mod_one, Value.cells]
      have hbAB : Below wA.heap.size wA wB := (Below.refl _ _).grown hgrow (Nat.le_refl _) (fun k hk => by cases hk)
      have HAB := Lib.hid hbAB
      have hRA := HR.out.lt
      have HRI := HR
      clear hown hgrow hC0 hbAB ji jz0 jz1 jz2 i4 HR
      go_wp2_with fail
      go_loopw [12] (fun v12 wr => ∃ k : Nat, k ≤ q ∧ v12 = .int .i64 (k : Int) ∧ Cells wr wA.heap.size 4 q (fun i => .bool (sn σ k i)) ∧ Below wA.heap.size wA wr) (fun v12 _ => q - (intOf v12).toNat)
      case atStart => exact ⟨0, Nat.zero_le _, rfl, HC0.out, HAB.out⟩
      case round =>
        clear HC0 HAB
        obtain ⟨k, hk, rfl, hC, hb⟩ := hrel
        have HCS := Lib.hid hC
        have HBA := Lib.hid hb
        have hzA := hb.size
        clear hC hb
        by_cases hlt : k < q
        · obtain ⟨s, hs⟩ : ∃ s, σ k = s := ⟨_, rfl⟩
          have hsq : s < q := hs ▸ HO.out.rng k hlt
          have H := HRI.out.below HBA.out hRA
          obtain ⟨l, hl⟩ : ∃ l, L s = l := ⟨_, rfl⟩
          obtain ⟨c, hc⟩ : ∃ c, C s = c := ⟨_, rfl⟩
          obtain ⟨F, hF⟩ : ∃ F, fb s = F := ⟨_, rfl⟩
          have m2 : wr.cell? ⟨w2.heap.size, k * 6 + 2, none⟩ = some (.int .i32 (s : Int)) := (H.cell hlt (j := 2) (by omega)).trans (by rw [← hs]; rfl)
          have hsn := sn_no HO.out hlt
          rw [hs] at hsn
          have s0 : wr.cell? ⟨wA.heap.size, s, none⟩ = some (.bool false) := HCS.out.cellv hsq (by rw [hsn])
          have sf := HCS.out.frozen
          obtain ⟨x0, ex0, p0, q0⟩ := HI0'.out s (by omega)
          obtain ⟨x1, ex1, p1, q1⟩ := HI1.out s (by omega)
          have B2A := HB.out.trans (HBA.out.mono HB.out.size)
          have p0' := later p0 B2A
          have p1' := later p1 B2A
          have lp0 := cell_lt p0
          have lp1 := cell_lt p1
          rw [hl] at p0' q0
          rw [hc] at p1' q1
          have nR : ¬ w2.heap.size = wA.heap.size := by omega
          subst ex0
          subst ex1
          have g0 : (wr.setCell ⟨wA.heap.size, s, none⟩ (.bool true)).cell? (x0.add s) = some (.int .i32 l) := by
            rw [World.cell?_setCell_other _ _ _ _ (fun e => by have := lp0; rw [← e] at this; simp at this; omega)]; exact p0'
          have g1 : (wr.setCell ⟨wA.heap.size, s, none⟩ (.bool true)).cell? (x1.add s) = some (.int .i32 c) := by
            rw [World.cell?_setCell_other _ _ _ _ (fun e => by have := lp1; rw [← e] at this; simp at this; omega)]; exact p1'
          have HCN : Hid (Cells (wr.setCell ⟨wA.heap.size, s, none⟩ (.bool true)) wA.heap.size 4 q (fun i => .bool (sn σ (k + 1) i))) := (HCS.out.set s (.bool true)).congr fun i hi => by
            unfold upd
            rw [sn_succ, hs]
            by_cases e : i = s
            · subst e; simp
            · have e' : (s == i) = false := by simpa using fun h => e h.symm
              rw [if_neg e, e', Bool.or_false]
          have HRN := Lib.hid (H.set_other (show w2.heap.size ≠ wA.heap.size from nR) s (.bool true))
          have HBN : Hid (Below wA.heap.size wA (wr.setCell ⟨wA.heap.size, s, none⟩ (.bool true))) := HBA.out.setCell (Nat.le_refl _) _
          have HX := Lib.hid (show σ k = s ∧ L s = l ∧ C s = c ∧ fb s = F from ⟨hs, hl, hc, hF⟩)
          clear H p0 p1 hs hl hc hF hsn B2A p0' p1'
          go_wp2_with fail
          refine (elem14 l s _ (by omega) q0).mono ?_
          rintro e w5 ⟨xx, rfl, hb5⟩
          rw [HX.out.2.2.2]
          have H5 := HRN.out.below hb5 HRN.out.lt
          have HC5 := Lib.hid (HCN.out.below hb5 HCN.out.lt)
          have g1' := later g1 hb5
          have e0 : w5.cell? ⟨w2.heap.size, k * 6, none⟩ = some (.int .i32 l) := (H5.cell0 hlt (by omega)).trans (by rw [HX.out.1]; show some (Value.int .i32 (L s)) = _; rw [HX.out.2.1])
          have e1 : w5.cell? ⟨w2.heap.size, k * 6 + 1, none⟩ = some (.int .i32 c) := (H5.cell hlt (j := 1) (by omega)).trans (by rw [HX.out.1]; show some (Value.int .i32 (C s)) = _; rw [HX.out.2.2.1])
          have e2 : w5.cell? ⟨w2.heap.size, k * 6 + 2, none⟩ = some (.int .i32 (s : Int)) := (H5.cell hlt (j := 2) (by omega)).trans (by rw [HX.out.1]; rfl)
          have e3 : w5.cell? ⟨w2.heap.size, k * 6 + 3, none⟩ = some (.int .i32 ((s : Int) + 1)) := (H5.cell hlt (j := 3) (by omega)).trans (by rw [HX.out.1]; rfl)
          have e4 : w5.cell? ⟨w2.heap.size, k * 6 + 4, none⟩ = some (.int .i32 (-(s : Int))) := (H5.cell hlt (j := 4) (by omega)).trans (by rw [HX.out.1]; rfl)
          have e5 : w5.cell? ⟨w2.heap.size, k * 6 + 5, none⟩ = some (.int .u32 F) := (H5.cell hlt (j := 5) (by omega)).trans (by rw [HX.out.1]; show some (Value.int .u32 (fb s)) = _; rw [HX.out.2.2.2])
          have lR := H5.lt
          have lx1 := cell_lt g1'
          have HB5 := Lib.hid (HBN.out.trans (hb5.mono HBN.out.size))
          have lA : wA.heap.size < w5.heap.size := HC5.out.lt
          clear hb5 H5 g0 g1 m2 s0 sf HCN HRN HBN
          go_wp2_with fail
          go_quiet (fail)
          go_wp2_with fail
          go_roundw
          case rel => exact ⟨k + 1, by omega, by go_num, (HC5.out.alloc _).drewN _, below_drewN (HB5.out.alloc (by omega) _) _⟩
          case measure => simp [intOf]; omega
        obtain rfl : k = q := by omega
        clear hlt
        obtain ⟨wC, rfl⟩ : ∃ wC : World, wC = wr := ⟨_, rfl⟩
        go_wp2_with fail
        go_loopw [15] (fun v15 wr => ∃ p : Nat, 1 ≤ p ∧ p ≤ k + 1 ∧ v15 = .int .i64 (p : Int) ∧ Below wA.heap.size wA wr) (fun v15 _ => k - (intOf v15).toNat)
        case atStart => exact ⟨1, Nat.le_refl _, by omega, rfl, HBA.out⟩
        case round =>
          clear HBA HCS hzA
          obtain ⟨p, hp1, hp, rfl, hb⟩ := hrel
          have HBC := Lib.hid hb
          have hzC := hb.size
          clear hb
          by_cases hlt : p < k
          · obtain ⟨r, hr⟩ : ∃ r, p = r + 1 := ⟨p - 1, by omega⟩
            have H := HRI.out.below HBC.out hRA
            have hnx : Lt (key L C) (σ r) (σ p) := by rw [hr]; exact HO.out.next (by omega)
            obtain ⟨s1, hs1⟩ : ∃ s, σ r = s := ⟨_, rfl⟩
            obtain ⟨s2, hs2⟩ : ∃ s, σ p = s := ⟨_, rfl⟩
            have hs1k : s1 < k := hs1 ▸ HO.out.rng r (by omega)
            have hs2k : s2 < k := hs2 ▸ HO.out.rng p hlt
            obtain ⟨l1, hl1⟩ : ∃ l, L s1 = l := ⟨_, rfl⟩
            obtain ⟨l2, hl2⟩ : ∃ l, L s2 = l := ⟨_, rfl⟩
            obtain ⟨x1, hx1⟩ : ∃ l, C s1 = l := ⟨_, rfl⟩
            obtain ⟨x2, hx2⟩ : ∃ l, C s2 = l := ⟨_, rfl⟩
            obtain ⟨K1, hK1⟩ : ∃ K, l1 * 4294967296 + (x1 + 2147483648) = K := ⟨_, rfl⟩
            obtain ⟨K2, hK2⟩ : ∃ K, l2 * 4294967296 + (x2 + 2147483648) = K := ⟨_, rfl⟩
            have KA := Lib.hid (key17' l1 x1 K1 (hl1 ▸ HLB.out _ hs1k) (hx1 ▸ HCB.out _ hs1k) hK1)
            have KB := Lib.hid (key17' l2 x2 K2 (hl2 ▸ HLB.out _ hs2k) (hx2 ▸ HCB.out _ hs2k) hK2)
            have c0 : wr.cell? ⟨w2.heap.size, r * 6, none⟩ = some (.int .i32 l1) := (H.cell0 (i := r) (by omega) (by omega)).trans (by rw [hs1]; show some (Value.int .i32 (L s1)) = _; rw [hl1])
            have c1 : wr.cell? ⟨w2.heap.size, r * 6 + 1, none⟩ = some (.int .i32 x1) := (H.cell (i := r) (by omega) (j := 1) (by omega)).trans (by rw [hs1]; show some (Value.int .i32 (C s1)) = _; rw [hx1])
            have c2 : wr.cell? ⟨w2.heap.size, r * 6 + 2, none⟩ = some (.int .i32 (s1 : Int)) := (H.cell (i := r) (by omega) (j := 2) (by omega)).trans (by rw [hs1]; rfl)
            have d0 : wr.cell? ⟨w2.heap.size, p * 6, none⟩ = some (.int .i32 l2) := (H.cell0 (i := p) hlt (by omega)).trans (by rw [hs2]; show some (Value.int .i32 (L s2)) = _; rw [hl2])
            have d1 : wr.cell? ⟨w2.heap.size, p * 6 + 1, none⟩ = some (.int .i32 x2) := (H.cell (i := p) hlt (j := 1) (by omega)).trans (by rw [hs2]; show some (Value.int .i32 (C s2)) = _; rw [hx2])
            have d2 : wr.cell? ⟨w2.heap.size, p * 6 + 2, none⟩ = some (.int .i32 (s2 : Int)) := (H.cell (i := p) hlt (j := 2) (by omega)).trans (by rw [hs2]; rfl)
            have hor : K1 < K2 ∨ (K1 = K2 ∧ s1 < s2) := by
              unfold Lt at hnx
              rw [hs1, hs2] at hnx
              unfold key at hnx
              rw [hl1, hl2, hx1, hx2, hK1, hK2] at hnx
              exact hnx
            have hrk : r < k := by omega
            have lR := H.lt
            have hw : IntKind.i64.wrap ((p : Int) - 1) = (r : Int) := by rw [IntWalk.i64_in _ (by omega)]; omega
            have hw' : (p : Int) - 1 = (r : Int) := by omega
            clear hr H hnx hs1 hs2 hl1 hl2 hx1 hx2 hK1 hK2
            rcases hor with hlt2 | ⟨rfl, hss⟩
            · have hne : (K1 == K2) = false := by simp; omega
              go_wp2_with fail
              go_quiet ((go_at_call 17; first | exact quiet1 KA.out | exact quiet2 KA.out))
              go_wp2_with fail
              go_quiet ((go_at_call 17; first | exact quiet2 KB.out | exact quiet1 KB.out))
              go_wp2_with fail
              go_quiet (fail)
              go_wp2_with fail
              go_roundw
              case rel => exact ⟨p + 1, by omega, by omega, by go_num, below_drewN HBC.out _⟩
              case measure => simp [intOf]; omega
            · have hss' : ¬ (s2 : Int) < (s1 : Int) := by omega
              clear hss
              go_wp2_with fail
              go_quiet ((go_at_call 17; first | exact quiet1 KA.out | exact quiet2 KA.out))
              go_wp2_with fail
              go_quiet ((go_at_call 17; first | exact quiet2 KB.out | exact quiet1 KB.out))
              go_wp2_with fail
              go_quiet (fail)
              go_wp2_with fail
              go_roundw
              case rel => exact ⟨p + 1, by omega, by omega, by go_num, below_drewN HBC.out _⟩
              case measure => simp [intOf]; omega
          have HFIN := Lib.hid (HB2.out.trans ((HB.out.trans (HBC.out.mono HB.out.size)).mono HB2.out.size))
          go_wp2_with fail
          go_ret
          exact ⟨rfl, HFIN.out⟩

theorem early (a0 a1 : Option Addr) (n0 n1 c0 c1 : Nat) (w : World) (h0 : n0 ≤ 9223372036854775807) (h1 : n1 ≤ 9223372036854775807) (h : 4096 < n0 ∨ 4096 < n1) :
    Calls Try.prog 4 #[.slice a0 n0 c0, .slice a1 n1 c1] w fun e w' => e = .returned (.bool true) ∧ Below w.heap.size w w' := by
  by_cases q0 : 4096 < n0
  · clear h
    go_enter Try.func4, Try.ntmps4
    go_wp2_with fail
    refine (zb12 _ _ _ _ _ _ _ h0 h1).mono ?_
    rintro e u ⟨b, rfl, rfl⟩
    cases b <;> go_wp2 <;> go_ret <;> exact ⟨rfl, Below.refl _ _⟩
  have q1 : 4096 < n1 := by omega
  clear h
  go_enter Try.func4, Try.ntmps4
  go_wp2_with fail
  refine (zb12 _ _ _ _ _ _ _ h0 h1).mono ?_
  rintro e u ⟨b, rfl, rfl⟩
  cases b <;> go_wp2 <;> go_ret <;> exact ⟨rfl, Below.refl _ _⟩

theorem row_len {k : IntKind} {w : World} {a : Option Addr} {len cap : Nat} {zs : List Int} (h : IsRow k w a len cap zs) : len ≤ 9223372036854775807 := by
  rcases h with ⟨rfl, rfl, rfl, rfl⟩ | ⟨x, rfl, hl, hm, hz, hcell, hwz⟩
  · omega
  · unfold maxLen at hm; omega
theorem row_or {w : World} {a : Option Addr} {len cap : Nat} {zs : List Int} (h : IsRow .i32 w a len cap zs) : (a = none ∧ len = 0 ∧ cap = 0) ∨ ∃ x, a = some x ∧ ∀ i, i < len → w.cell? (x.add i) = some (.int .i32 (zs.getD i 0)) := by
  rcases h with ⟨rfl, rfl, rfl, rfl⟩ | ⟨x, rfl, hl, hm, hz, hcell, hwz⟩
  · exact .inl ⟨rfl, rfl, rfl⟩
  · exact .inr ⟨x, rfl, fun i hi => hcell i (by omega)⟩
theorem row_bd {w : World} {a : Option Addr} {len cap : Nat} {zs : List Int} (h : IsRow .i32 w a len cap zs) : ∀ i, i < len → i32b (zs.getD i 0) := fun i hi => by
  rcases h with ⟨rfl, rfl, rfl, rfl⟩ | ⟨x, rfl, hl, hm, hz, hcell, hwz⟩
  · omega
  · have hi' : i < zs.length := by omega
    have e : zs.getD i 0 = zs[i] := by simp [List.getD, List.getElem?_eq_getElem hi']
    rw [e]
    exact bounds_i32 (hwz _ (List.getElem_mem hi'))

theorem walk (a0 : Option Addr) (len0 cap0 : Nat) (z0 : List Int) (a1 : Option Addr) (len1 cap1 : Nat) (z1 : List Int) (w : World) (w0 : IsRow .i32 w a0 len0 cap0 z0) (w1 : IsRow .i32 w a1 len1 cap1 z1) :
    Calls Try.prog 4 #[.slice a0 len0 cap0, .slice a1 len1 cap1] w fun e w' => e = .returned (.bool true) ∧ Below w.heap.size w w' := by
  by_cases h : 4096 < len0 ∨ 4096 < len1
  · exact early a0 a1 len0 len1 cap0 cap1 w (row_len w0) (row_len w1) h
  by_cases hlt : len1 < len0
  · exact walk_n1 a0 a1 len0 len1 cap0 cap1 z0 z1 w (by omega) (by omega) hlt (row_or w0) (row_bd w0) (row_or w1) (row_bd w1)
  · exact walk_n0 a0 a1 len0 len1 cap0 cap1 z0 z1 w (by omega) (by omega) hlt (row_or w0) (row_bd w0) (row_or w1) (row_bd w1)


end Go.Proofs.Ytmbbabikbmkjpaa.fnMappingLessSwapSortStable
