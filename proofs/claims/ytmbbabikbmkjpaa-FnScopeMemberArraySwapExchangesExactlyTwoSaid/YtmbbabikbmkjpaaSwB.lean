import Derived.Test.YtmbbabikbmkjpaaKit
import Derived.Test.YtmbbabikbmkjpaaSwA
namespace Go.Proofs.Ytmbbabikbmkjpaa.fnScopeMemberArraySwapExchangesExactlyTwo
open Go.ChangeShapes Go.WideShapes Go.ChangeAt Go.RowKit
set_option linter.unusedVariables false
set_option maxRecDepth 100000
set_option maxHeartbeats 2000000

/-- The members as the lists say. -/
def mem (I S L : List Int) (t j : Nat) : Value := if j = 0 then .int .u32 (S.getD t 0) else if j = 1 then .int .u32 (I.getD t 0) else .int .i32 (L.getD t 0)

theorem info39 : (Try.prog.info? 39).map (fun i => (i.zero, i.size, i.bytes)) = some (some (.agg #[.int .u32 0, .int .u32 0, .int .i32 0]), 3, 12) := by kernel_rfl

theorem swap10 (R n c i j : Nat) (a0 a1 a2 d0 d1 d2 : Int) (w : World) (hi : i < n) (hj : j < n) (hn : n ≤ 65536)
    (i0 : w.cell? ⟨R, i * 3, none⟩ = some (.int .u32 a0)) (i1 : w.cell? ⟨R, i * 3 + 1, none⟩ = some (.int .u32 a1)) (i2 : w.cell? ⟨R, i * 3 + 2, none⟩ = some (.int .i32 a2))
    (j0 : w.cell? ⟨R, j * 3, none⟩ = some (.int .u32 d0)) (j1 : w.cell? ⟨R, j * 3 + 1, none⟩ = some (.int .u32 d1)) (j2 : w.cell? ⟨R, j * 3 + 2, none⟩ = some (.int .i32 d2)) (f : ∀ o, w.frozen? ⟨R, o, none⟩ = false) :
    Calls Try.prog 10 #[.slice (some ⟨R, 0, none⟩) n c, .int .i64 i, .int .i64 j] w fun e w' => e = .returned (.tuple #[]) ∧ w' = (((((((w.setCell ⟨R, i * 3, none⟩ (.int .u32 d0)).setCell ⟨R, i * 3 + 1, none⟩ (.int .u32 d1)).setCell ⟨R, i * 3 + 2, none⟩ (.int .i32 d2)).setCell ⟨R, j * 3, none⟩ (.int .u32 a0)).setCell ⟨R, j * 3 + 1, none⟩ (.int .u32 a1)).setCell ⟨R, j * 3 + 2, none⟩ (.int .i32 a2))).drew := by
  have b1 : (i : Int) < (n : Int) := by omega
  have b2 : (j : Int) < (n : Int) := by omega
  by_cases e : i = j
  · subst e
    obtain rfl : d0 = a0 := by rw [i0] at j0; injection j0 with j0; injection j0 with _ j0; exact j0.symm
    obtain rfl : d1 = a1 := by rw [i1] at j1; injection j1 with j1; injection j1 with _ j1; exact j1.symm
    obtain rfl : d2 = a2 := by rw [i2] at j2; injection j2 with j2; injection j2 with _ j2; exact j2.symm
    go_enter Try.func10, Try.ntmps10
    go_wp2_with fail
    go_region
    go_wp2_with fail
    go_end0
    exact ⟨rfl, rfl⟩
  · have q00 : ¬ i * 3 = j * 3 := by omega
    have q01 : ¬ i * 3 = j * 3 + 1 := by omega
    have q02 : ¬ i * 3 = j * 3 + 2 := by omega
    have q10 : ¬ i * 3 + 1 = j * 3 := by omega
    have q11 : ¬ i * 3 + 1 = j * 3 + 1 := by omega
    have q12 : ¬ i * 3 + 1 = j * 3 + 2 := by omega
    have q20 : ¬ i * 3 + 2 = j * 3 := by omega
    have q21 : ¬ i * 3 + 2 = j * 3 + 1 := by omega
    have q22 : ¬ i * 3 + 2 = j * 3 + 2 := by omega
    go_enter Try.func10, Try.ntmps10
    go_wp2_with fail
    go_region
    go_wp2_with fail
    go_end0
    exact ⟨rfl, rfl⟩

theorem swapped (R n c i j : Nat) (I S L : List Int) (w : World) (hi : i < n) (hj : j < n) (hn : n ≤ 65536) (H : Rec w R 39 3 n (mem I S L)) :
    Calls Try.prog 10 #[.slice (some ⟨R, 0, none⟩) n c, .int .i64 i, .int .i64 j] w fun e w' => e = .returned (.tuple #[]) ∧ Rec w' R 39 3 n (sw2 (mem I S L) i j) ∧ ∀ B w0, Below B w0 w → B ≤ R → Below B w0 w' := by
  refine (swap10 R n c i j (S.getD i 0) (I.getD i 0) (L.getD i 0) (S.getD j 0) (I.getD j 0) (L.getD j 0) w hi hj hn (H.cell0 hi (by omega)) (H.cell hi (j := 1) (by omega)) (H.cell hi (j := 2) (by omega)) (H.cell0 hj (by omega)) (H.cell hj (j := 1) (by omega)) (H.cell hj (j := 2) (by omega)) H.frozen).mono ?_
  rintro e w' ⟨rfl, rfl⟩
  refine ⟨rfl, ?_, fun B w0 hb hR => by go_grown⟩
  refine Rec.congr (((H.set3 hi _ _ _).set3 hj _ _ _).drewN 1) fun a ha b hb => ?_
  unfold updS2 sw2
  have hb' : b = 0 ∨ b = 1 ∨ b = 2 := by omega
  by_cases e1 : a = j
  · subst e1
    rw [if_pos rfl]
    by_cases e2 : a = i
    · subst e2
      rw [if_pos rfl]
      rcases hb' with rfl | rfl | rfl <;> rfl
    · rw [if_neg e2, if_pos rfl]
      rcases hb' with rfl | rfl | rfl <;> rfl
  · rw [if_neg e1, if_neg e1]
    by_cases e2 : a = i
    · rw [if_pos e2, if_pos e2]
      rcases hb' with rfl | rfl | rfl <;> rfl
    · rw [if_neg e2, if_neg e2]

theorem build9 (x y z : Addr) (n c0 c1 c2 : Nat) (I S L : List Int) (w : World) (hn : n ≤ 65536) (h0 : ∀ i, i < n → w.cell? (x.add i) = some (.int .u32 (I.getD i 0))) (h1 : ∀ i, i < n → w.cell? (y.add i) = some (.int .u32 (S.getD i 0))) (h2 : ∀ i, i < n → w.cell? (z.add i) = some (.int .i32 (L.getD i 0))) :
    Calls Try.prog 9 #[.slice (some x) n c0, .slice (some y) n c1, .slice (some z) n c2] w fun e w' => e = .returned (.slice (some ⟨w.heap.size, 0, none⟩) n n) ∧ Rec w' w.heap.size 39 3 n (mem I S L) ∧ Below w.heap.size w w' := by
  obtain ⟨i0, hi, hz0, hz1, hz2⟩ := info_parts info39
  have H0 := Lib.hid h0
  have H1 := Lib.hid h1
  have H2 := Lib.hid h2
  clear h0 h1 h2
  go_enter Try.func9, Try.ntmps9
  go_wp2_with (at_make; refine wpList_make_full _ rfl _ _ 28 rfl w.heap.size 39 i0 _ 3 Try.underlying28 hi hz0 hz1 .i64 .i64 _ _ n rfl rfl rfl rfl (by rw [hz2]; omega) (by unfold maxLen; omega) (Nat.le_refl _) ?_)
  intro w1 hown hgrow
  have hS : Rec w1 w.heap.size 39 3 n (fun t j => if t < 0 then mem I S L t j else mem [] [] [] t j) := (Rec.made hown rfl).congr fun i hi j hj => by
    have : j = 0 ∨ j = 1 ∨ j = 2 := by omega
    rcases this with rfl | rfl | rfl <;> simp [mem]
  have hb1 : Below w.heap.size w w1 := (Below.refl _ _).grown hgrow (Nat.le_refl _) (fun k hk => by cases hk)
  have HS := Lib.hid hS
  clear hown hgrow hi hz0 hz1 hz2 i0 hS
  go_wp2_with fail
  go_loopw [9] (fun v9 wr => ∃ k : Nat, k ≤ n ∧ v9 = .int .i64 k ∧ Rec wr w.heap.size 39 3 n (fun t j => if t < k then mem I S L t j else mem [] [] [] t j) ∧ Below w.heap.size w wr) (fun v9 _ => n - (intOf v9).toNat)
  case atStart => exact ⟨0, Nat.zero_le _, rfl, HS.out, hb1⟩
  case round =>
    obtain ⟨k, hk, rfl, hS, hb⟩ := hrel
    have HK := Lib.hid hS
    clear hS HS hb1
    by_cases hlt : k < n
    · have q0 := later (H0.out k hlt) hb
      have q1 := later (H1.out k hlt) hb
      have q2 := later (H2.out k hlt) hb
      obtain ⟨v0, hv0⟩ : ∃ v, I.getD k 0 = v := ⟨_, rfl⟩
      obtain ⟨v1, hv1⟩ : ∃ v, S.getD k 0 = v := ⟨_, rfl⟩
      obtain ⟨v2, hv2⟩ : ∃ v, L.getD k 0 = v := ⟨_, rfl⟩
      rw [hv0] at q0
      rw [hv1] at q1
      rw [hv2] at q2
      have HV0 := Lib.hid hv0
      have HV1 := Lib.hid hv1
      have HV2 := Lib.hid hv2
      clear hv0 hv1 hv2
      have b1 : (k : Int) < (n : Int) := by omega
      have HF : Hid (∀ u, Below wr.drew.heap.size wr.drew u → Below w.heap.size w u ∧ Rec u w.heap.size 39 3 n (fun t j => if t < k then mem I S L t j else mem [] [] [] t j)) := fun u h => ⟨(below_drewN hb 1).trans (h.mono hb.size), HK.out.below (B := wr.heap.size) ⟨h.os, h.tape, h.output, h.size, h.block⟩ HK.out.lt⟩
      go_wp2_with fail
      go_region_with (first | ((go_at_call 23; (with_reducible refine (mk23 _ _ _ _).mono ?_); rintro e w2 ⟨rfl, hb2⟩; obtain ⟨hb3, hk2⟩ := HF.out _ hb2; have HK2 := Lib.hid hk2; clear hk2; have e0 := HK2.out.cell0 (i := k) hlt (by omega); have e1 := HK2.out.cell (i := k) hlt (j := 1) (by omega); have e2 := HK2.out.cell (i := k) hlt (j := 2) (by omega); have e3 := HK2.out.frozen; simp only [Nat.lt_irrefl, if_false] at e0 e1 e2; clear hb2)))
      all_goals
        go_wp2_with fail
        go_roundw
        case rel =>
          refine ⟨k + 1, by omega, by go_num, ?_, by go_grown⟩
          refine (HK2.out.set3 hlt (.int .u32 v1) (.int .u32 v0) (.int .i32 v2)).congr fun a ha b hb' => ?_
          unfold updS2
          by_cases e : a = k
          · subst e
            rw [if_pos rfl, if_pos (by omega), mem, HV0.out, HV1.out, HV2.out, f3]
          · rw [if_neg e]
            show (if a < k then mem I S L a b else mem [] [] [] a b) = _
            by_cases e2 : a < k
            · rw [if_pos e2, if_pos (by omega)]
            · rw [if_neg e2, if_neg (by omega)]
        case measure => simp [intOf]; omega
    · obtain rfl : k = n := by omega
      go_wp2_with fail
      go_ret
      exact ⟨rfl, HK.out.congr fun i hi j hj => if_pos hi, hb⟩

end Go.Proofs.Ytmbbabikbmkjpaa.fnScopeMemberArraySwapExchangesExactlyTwo
