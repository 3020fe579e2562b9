import Derived.Test.YtailfkedgdlldabKit
import Derived.Test.YtailfkedgdlldabJumpC
import Derived.Test.YtailfkedgdlldabJumpR
namespace Go.Proofs.Ytailfkedgdlldab.fnJumpStmtsLookTheSameSymmetricAndOnlyJumps
open Go.ChangeShapes Go.WideShapes Go.ChangeAt Go.RowKit
set_option linter.unusedVariables false
set_option maxRecDepth 100000
set_option maxHeartbeats 2000000

/-- What the test of two jumps answers: 0 break, 1 continue, 2 return. -/
def sameS (i j : Int) (o1 o2 : Option (Int × Int)) : Bool := if i = j then (if i = 2 then true else decide (o1 = o2)) else false

theorem sameS_comm (i j : Int) (o1 o2 : Option (Int × Int)) : sameS i j o1 o2 = sameS j i o2 o1 := by
  unfold sameS
  by_cases h : i = j
  · subst h
    simp only [if_true]
    by_cases h2 : i = 2
    · simp [h2]
    · simp only [h2, if_false]
      by_cases h3 : o1 = o2
      · subst h3; rfl
      · rw [decide_eq_false h3, decide_eq_false (fun e => h3 e.symm)]
  · rw [if_neg h, if_neg (fun e => h e.symm)]

theorem lab (has : Bool) (s i l : Int) (w : World) : Calls Try.prog 8 #[.bool has, .int .u32 s, .int .u32 i, .int .i32 l] w
    fun e w' => ∃ p, e = .returned (.pointer p) ∧ LabAt w' p (if has then some (s, i) else none) ∧ Below w.heap.size w w' := by
  cases has
  · go_enter Try.func8, Try.ntmps8
    go_wp2
    go_ret
    exact ⟨_, rfl, .inl ⟨rfl, rfl⟩, by go_grown⟩
  · go_enter Try.func8, Try.ntmps8
    go_wp2
    go_ret
    exact ⟨_, rfl, .inr ⟨_, s, i, rfl, rfl, by go_simp, by go_simp⟩, by go_grown⟩

theorem same00 (lk rk : Int) (p q : Option Addr) (o1 o2 : Option (Int × Int)) (w : World) (l0 : 0 ≤ lk) (r0 : 0 ≤ rk) (hl : lk % 3 = 0) (hr : rk % 3 = 0) (h1 : LabAt w p o1) (h2 : LabAt w q o2) :
    Calls Try.prog 9 #[.int .u8 lk, .pointer p, .int .u8 rk, .pointer q] w fun e w' => e = .returned (.bool (decide (o1 = o2))) ∧ Below w.heap.size w w' := by
  have H1 := Lib.hid h1
  have H2 := Lib.hid h2
  clear h1 h2
  obtain ⟨B, hB⟩ : ∃ B, (decide (o1 = o2)) = B := ⟨_, rfl⟩
  rw [hB]
  have HB := Lib.hid hB
  clear hB
  go_enter Try.func9, Try.ntmps9
  go_wp2_with (go_at_call 34; go_in)
  refine (bb _ _ p q o1 o2 _ (by go_simp) (by go_simp) (H1.out.below (by go_grown)) (H2.out.below (by go_grown))).mono ?_
  rintro e w1 ⟨rfl, hb1⟩
  rw [HB.out]
  go_wp2
  go_ret
  exact ⟨rfl, Below.trans (by go_grown) (hb1.mono (by go_size))⟩
theorem same01 (lk rk : Int) (p q : Option Addr) (o1 o2 : Option (Int × Int)) (w : World) (l0 : 0 ≤ lk) (r0 : 0 ≤ rk) (hl : lk % 3 = 0) (hr : rk % 3 = 1) (h1 : LabAt w p o1) (h2 : LabAt w q o2) :
    Calls Try.prog 9 #[.int .u8 lk, .pointer p, .int .u8 rk, .pointer q] w fun e w' => e = .returned (.bool (false)) ∧ Below w.heap.size w w' := by
  have H1 := Lib.hid h1
  have H2 := Lib.hid h2
  clear h1 h2
  obtain ⟨B, hB⟩ : ∃ B, (false) = B := ⟨_, rfl⟩
  rw [hB]
  have HB := Lib.hid hB
  clear hB
  go_enter Try.func9, Try.ntmps9
  go_wp2_with (go_at_call 35; go_in)
  refine (d149_152 _ _ _).mono ?_
  rintro e w1 ⟨rfl, hb1⟩
  rw [HB.out]
  go_wp2
  go_ret
  exact ⟨rfl, Below.trans (by go_grown) (hb1.mono (by go_size))⟩
theorem same02 (lk rk : Int) (p q : Option Addr) (o1 o2 : Option (Int × Int)) (w : World) (l0 : 0 ≤ lk) (r0 : 0 ≤ rk) (hl : lk % 3 = 0) (hr : rk % 3 = 2) (h1 : LabAt w p o1) (h2 : LabAt w q o2) :
    Calls Try.prog 9 #[.int .u8 lk, .pointer p, .int .u8 rk, .pointer q] w fun e w' => e = .returned (.bool (false)) ∧ Below w.heap.size w w' := by
  have H1 := Lib.hid h1
  have H2 := Lib.hid h2
  clear h1 h2
  obtain ⟨B, hB⟩ : ∃ B, (false) = B := ⟨_, rfl⟩
  rw [hB]
  have HB := Lib.hid hB
  clear hB
  go_enter Try.func9, Try.ntmps9
  go_wp2_with (go_at_call 36; go_in)
  refine (d149_154 _ _ _).mono ?_
  rintro e w1 ⟨rfl, hb1⟩
  rw [HB.out]
  go_wp2
  go_ret
  exact ⟨rfl, Below.trans (by go_grown) (hb1.mono (by go_size))⟩
theorem same10 (lk rk : Int) (p q : Option Addr) (o1 o2 : Option (Int × Int)) (w : World) (l0 : 0 ≤ lk) (r0 : 0 ≤ rk) (hl : lk % 3 = 1) (hr : rk % 3 = 0) (h1 : LabAt w p o1) (h2 : LabAt w q o2) :
    Calls Try.prog 9 #[.int .u8 lk, .pointer p, .int .u8 rk, .pointer q] w fun e w' => e = .returned (.bool (false)) ∧ Below w.heap.size w w' := by
  have H1 := Lib.hid h1
  have H2 := Lib.hid h2
  clear h1 h2
  obtain ⟨B, hB⟩ : ∃ B, (false) = B := ⟨_, rfl⟩
  rw [hB]
  have HB := Lib.hid hB
  clear hB
  go_enter Try.func9, Try.ntmps9
  go_wp2_with (go_at_call 37; go_in)
  refine (d152_149 _ _ _).mono ?_
  rintro e w1 ⟨rfl, hb1⟩
  rw [HB.out]
  go_wp2
  go_ret
  exact ⟨rfl, Below.trans (by go_grown) (hb1.mono (by go_size))⟩
theorem same11 (lk rk : Int) (p q : Option Addr) (o1 o2 : Option (Int × Int)) (w : World) (l0 : 0 ≤ lk) (r0 : 0 ≤ rk) (hl : lk % 3 = 1) (hr : rk % 3 = 1) (h1 : LabAt w p o1) (h2 : LabAt w q o2) :
    Calls Try.prog 9 #[.int .u8 lk, .pointer p, .int .u8 rk, .pointer q] w fun e w' => e = .returned (.bool (decide (o1 = o2))) ∧ Below w.heap.size w w' := by
  have H1 := Lib.hid h1
  have H2 := Lib.hid h2
  clear h1 h2
  obtain ⟨B, hB⟩ : ∃ B, (decide (o1 = o2)) = B := ⟨_, rfl⟩
  rw [hB]
  have HB := Lib.hid hB
  clear hB
  go_enter Try.func9, Try.ntmps9
  go_wp2_with (go_at_call 38; go_in)
  refine (cc _ _ p q o1 o2 _ (by go_simp) (by go_simp) (H1.out.below (by go_grown)) (H2.out.below (by go_grown))).mono ?_
  rintro e w1 ⟨rfl, hb1⟩
  rw [HB.out]
  go_wp2
  go_ret
  exact ⟨rfl, Below.trans (by go_grown) (hb1.mono (by go_size))⟩
theorem same12 (lk rk : Int) (p q : Option Addr) (o1 o2 : Option (Int × Int)) (w : World) (l0 : 0 ≤ lk) (r0 : 0 ≤ rk) (hl : lk % 3 = 1) (hr : rk % 3 = 2) (h1 : LabAt w p o1) (h2 : LabAt w q o2) :
    Calls Try.prog 9 #[.int .u8 lk, .pointer p, .int .u8 rk, .pointer q] w fun e w' => e = .returned (.bool (false)) ∧ Below w.heap.size w w' := by
  have H1 := Lib.hid h1
  have H2 := Lib.hid h2
  clear h1 h2
  obtain ⟨B, hB⟩ : ∃ B, (false) = B := ⟨_, rfl⟩
  rw [hB]
  have HB := Lib.hid hB
  clear hB
  go_enter Try.func9, Try.ntmps9
  go_wp2_with (go_at_call 39; go_in)
  refine (d152_154 _ _ _).mono ?_
  rintro e w1 ⟨rfl, hb1⟩
  rw [HB.out]
  go_wp2
  go_ret
  exact ⟨rfl, Below.trans (by go_grown) (hb1.mono (by go_size))⟩
theorem same20 (lk rk : Int) (p q : Option Addr) (o1 o2 : Option (Int × Int)) (w : World) (l0 : 0 ≤ lk) (r0 : 0 ≤ rk) (hl : lk % 3 = 2) (hr : rk % 3 = 0) (h1 : LabAt w p o1) (h2 : LabAt w q o2) :
    Calls Try.prog 9 #[.int .u8 lk, .pointer p, .int .u8 rk, .pointer q] w fun e w' => e = .returned (.bool (false)) ∧ Below w.heap.size w w' := by
  have H1 := Lib.hid h1
  have H2 := Lib.hid h2
  clear h1 h2
  obtain ⟨B, hB⟩ : ∃ B, (false) = B := ⟨_, rfl⟩
  rw [hB]
  have HB := Lib.hid hB
  clear hB
  go_enter Try.func9, Try.ntmps9
  go_wp2_with (go_at_call 40; go_in)
  refine (d154_149 _ _ _).mono ?_
  rintro e w1 ⟨rfl, hb1⟩
  rw [HB.out]
  go_wp2
  go_ret
  exact ⟨rfl, Below.trans (by go_grown) (hb1.mono (by go_size))⟩
theorem same21 (lk rk : Int) (p q : Option Addr) (o1 o2 : Option (Int × Int)) (w : World) (l0 : 0 ≤ lk) (r0 : 0 ≤ rk) (hl : lk % 3 = 2) (hr : rk % 3 = 1) (h1 : LabAt w p o1) (h2 : LabAt w q o2) :
    Calls Try.prog 9 #[.int .u8 lk, .pointer p, .int .u8 rk, .pointer q] w fun e w' => e = .returned (.bool (false)) ∧ Below w.heap.size w w' := by
  have H1 := Lib.hid h1
  have H2 := Lib.hid h2
  clear h1 h2
  obtain ⟨B, hB⟩ : ∃ B, (false) = B := ⟨_, rfl⟩
  rw [hB]
  have HB := Lib.hid hB
  clear hB
  go_enter Try.func9, Try.ntmps9
  go_wp2_with (go_at_call 41; go_in)
  refine (d154_152 _ _ _).mono ?_
  rintro e w1 ⟨rfl, hb1⟩
  rw [HB.out]
  go_wp2
  go_ret
  exact ⟨rfl, Below.trans (by go_grown) (hb1.mono (by go_size))⟩
theorem same22 (lk rk : Int) (p q : Option Addr) (o1 o2 : Option (Int × Int)) (w : World) (l0 : 0 ≤ lk) (r0 : 0 ≤ rk) (hl : lk % 3 = 2) (hr : rk % 3 = 2) (h1 : LabAt w p o1) (h2 : LabAt w q o2) :
    Calls Try.prog 9 #[.int .u8 lk, .pointer p, .int .u8 rk, .pointer q] w fun e w' => e = .returned (.bool (true)) ∧ Below w.heap.size w w' := by
  have H1 := Lib.hid h1
  have H2 := Lib.hid h2
  clear h1 h2
  obtain ⟨B, hB⟩ : ∃ B, (true) = B := ⟨_, rfl⟩
  rw [hB]
  have HB := Lib.hid hB
  clear hB
  go_enter Try.func9, Try.ntmps9
  go_wp2_with (go_at_call 42; go_in)
  refine (rr _ _ _ (by go_simp) (by go_simp)).mono ?_
  rintro e w1 ⟨rfl, hb1⟩
  rw [HB.out]
  go_wp2
  go_ret
  exact ⟨rfl, Below.trans (by go_grown) (hb1.mono (by go_size))⟩
theorem same (lk rk : Int) (p q : Option Addr) (o1 o2 : Option (Int × Int)) (w : World) (l0 : 0 ≤ lk) (r0 : 0 ≤ rk) (h1 : LabAt w p o1) (h2 : LabAt w q o2) :
    Calls Try.prog 9 #[.int .u8 lk, .pointer p, .int .u8 rk, .pointer q] w fun e w' => e = .returned (.bool (sameS (lk % 3) (rk % 3) o1 o2)) ∧ Below w.heap.size w w' := by
  have hl : lk % 3 = 0 ∨ lk % 3 = 1 ∨ lk % 3 = 2 := by omega
  have hr : rk % 3 = 0 ∨ rk % 3 = 1 ∨ rk % 3 = 2 := by omega
  rcases hl with hl | hl | hl <;> rcases hr with hr | hr | hr <;> rw [hl, hr]
  · exact same00 lk rk p q o1 o2 w l0 r0 hl hr h1 h2
  · exact same01 lk rk p q o1 o2 w l0 r0 hl hr h1 h2
  · exact same02 lk rk p q o1 o2 w l0 r0 hl hr h1 h2
  · exact same10 lk rk p q o1 o2 w l0 r0 hl hr h1 h2
  · exact same11 lk rk p q o1 o2 w l0 r0 hl hr h1 h2
  · exact same12 lk rk p q o1 o2 w l0 r0 hl hr h1 h2
  · exact same20 lk rk p q o1 o2 w l0 r0 hl hr h1 h2
  · exact same21 lk rk p q o1 o2 w l0 r0 hl hr h1 h2
  · exact same22 lk rk p q o1 o2 w l0 r0 hl hr h1 h2
theorem jump0 (p : Option Addr) (w : World) : Calls Try.prog 10 #[.int .u8 0, .pointer p] w fun e w' => e = .returned (.bool true) ∧ Below w.heap.size w w' := by
  go_enter Try.func10, Try.ntmps10
  go_wp2
  go_ret
  exact ⟨rfl, by go_grown⟩
theorem jump1 (p : Option Addr) (w : World) : Calls Try.prog 10 #[.int .u8 1, .pointer p] w fun e w' => e = .returned (.bool true) ∧ Below w.heap.size w w' := by
  go_enter Try.func10, Try.ntmps10
  go_wp2
  go_ret
  exact ⟨rfl, by go_grown⟩
theorem jump2 (p : Option Addr) (w : World) : Calls Try.prog 10 #[.int .u8 2, .pointer p] w fun e w' => e = .returned (.bool true) ∧ Below w.heap.size w w' := by
  go_enter Try.func10, Try.ntmps10
  go_wp2
  go_ret
  exact ⟨rfl, by go_grown⟩
theorem jump (k : Int) (p : Option Addr) (w : World) (h0 : 0 ≤ k) (h : k < 3) : Calls Try.prog 10 #[.int .u8 k, .pointer p] w fun e w' => e = .returned (.bool true) ∧ Below w.heap.size w w' := by
  have hk : k = 0 ∨ k = 1 ∨ k = 2 := by omega
  rcases hk with rfl | rfl | rfl
  · exact jump0 p w
  · exact jump1 p w
  · exact jump2 p w

theorem walk (a0 : Int) (a1 : Bool) (a2 : Int) (a3 : Int) (a4 : Int) (a5 : Int) (a6 : Bool) (a7 : Int) (a8 : Int) (a9 : Int) (w : World) (w0 : (Lit.int .u8 a0).wf = true) (w2 : (Lit.int .u32 a2).wf = true) (w3 : (Lit.int .u32 a3).wf = true) (w4 : (Lit.int .i32 a4).wf = true) (w5 : (Lit.int .u8 a5).wf = true) (w7 : (Lit.int .u32 a7).wf = true) (w8 : (Lit.int .u32 a8).wf = true) (w9 : (Lit.int .i32 a9).wf = true) :
    Calls Try.prog 3 #[.int .u8 a0, .bool a1, .int .u32 a2, .int .u32 a3, .int .i32 a4, .int .u8 a5, .bool a6, .int .u32 a7, .int .u32 a8, .int .i32 a9] w fun e w' => e = .returned (.bool true) ∧ Below w.heap.size w w' := by
  have l0 := (bounds_u8 w0).1
  have r0 := (bounds_u8 w5).1
  have l3 : a0 % 3 < 3 := by omega
  have r3 : a5 % 3 < 3 := by omega
  have l4 : 0 ≤ a0 % 3 := by omega
  have r4 : 0 ≤ a5 % 3 := by omega
  clear w0 w2 w3 w4 w5 w7 w8 w9
  go_enter Try.func3, Try.ntmps3
  go_wp2_with fail
  refine (lab _ _ _ _ _).mono ?_
  rintro e w1 ⟨p, rfl, hp, b1⟩
  go_wp2_with fail
  refine (lab _ _ _ _ _).mono ?_
  rintro e w2 ⟨q, rfl, hq, b2⟩
  have hp2 := hp.below b2
  have B2 : Below w.heap.size w w2 := b1.trans (b2.mono b1.size)
  clear hp b1 b2
  obtain ⟨o1, ho1⟩ : ∃ o1, (if a1 = true then some (a2, a3) else none) = o1 := ⟨_, rfl⟩
  obtain ⟨o2, ho2⟩ : ∃ o2, (if a6 = true then some (a7, a8) else none) = o2 := ⟨_, rfl⟩
  rw [ho1] at hp2
  rw [ho2] at hq
  clear ho1 ho2
  have HP := Lib.hid hp2
  have HQ := Lib.hid hq
  clear hp2 hq
  obtain ⟨S, hS⟩ : ∃ S, sameS (a0 % 3) (a5 % 3) o1 o2 = S := ⟨_, rfl⟩
  have HS := Lib.hid hS
  have HS2 : Hid (sameS (a5 % 3) (a0 % 3) o2 o1 = S) := by unfold Hid; rw [sameS_comm]; exact hS
  clear hS
  go_wp2_with fail
  refine (same _ _ _ _ o1 o2 _ l0 r0 HP.out HQ.out).mono ?_
  rintro e w3 ⟨rfl, b3⟩
  rw [HS.out]
  go_wp2_with fail
  refine (same _ _ _ _ o2 o1 _ r0 l0 (HQ.out.below b3) (HP.out.below b3)).mono ?_
  rintro e w4 ⟨rfl, b4⟩
  rw [HS2.out]
  have B4 : Below w.heap.size w w4 := (B2.trans (b3.mono B2.size)).trans (b4.mono (Nat.le_trans B2.size b3.size))
  clear b3 b4 B2 HP HQ HS HS2
  cases S
  · go_wp2
    go_ret
    exact ⟨rfl, B4⟩
  · go_wp2_with fail
    refine (jump _ _ _ l4 l3).mono ?_
    rintro e w5 ⟨rfl, b5⟩
    go_wp2_with fail
    refine (jump _ _ _ r4 r3).mono ?_
    rintro e w6 ⟨rfl, b6⟩
    go_wp2
    go_ret
    exact ⟨rfl, (B4.trans (b5.mono B4.size)).trans (b6.mono (Nat.le_trans B4.size b5.size))⟩

end Go.Proofs.Ytailfkedgdlldab.fnJumpStmtsLookTheSameSymmetricAndOnlyJumps
