import Derived.Test.YtfbjlgjlbndmkadDoorKit
import Derived.Test.YtfbjlgjlbndmkadDoorLaH
namespace Go.Proofs.YtfbjlgjlbndmkadDoor.fnLogArrowArgErrorsSplit
open Go.ChangeShapes Go.WideShapes Go.ChangeAt Go.RowKit
set_option linter.unusedVariables false
set_option maxRecDepth 100000
set_option maxHeartbeats 2000000

open Go.MuLone
def Tof (la : Int) (i : Nat) : ByteArray := if i = 0 ∧ 0 < la then txA else txY
theorem mlist (la ly : Int) : MsgList (cntOf la ly) (fun _ => (none, 0, 0)) (Tof la) (logOf la ly) := by
  intro i hi
  unfold cntOf logOf at *
  unfold Tof
  by_cases ha : 0 < la
  · by_cases hy : 0 < ly
    · rw [if_pos ha, if_pos hy] at hi ⊢
      obtain rfl | rfl : i = 0 ∨ i = 1 := by omega
      · simp [ha]; rfl
      · simp; rfl
    · rw [if_pos ha, if_neg hy] at hi ⊢
      obtain rfl : i = 0 := by omega
      simp [ha]; rfl
  · by_cases hy : 0 < ly
    · rw [if_neg ha, if_pos hy] at hi ⊢
      obtain rfl : i = 0 := by omega
      simp [ha]; rfl
    · rw [if_neg ha, if_neg hy] at hi
      omega
theorem cnt_le (la ly : Int) : cntOf la ly ≤ 2 := by
  unfold cntOf
  split <;> split <;> omega
/-- A slice of n messages. -/
def SM (W : World) (a : Option Addr) (n : Nat) (T : Nat → ByteArray) : Prop := ∀ i, i < n → ∃ g cs, a = some ⟨g, 0, none⟩ ∧ Msgs W g n (fun _ => (none, 0, 0)) (fun _ => none) T cs
theorem sm_of {W : World} {B n : Nat} {v : Value} {xs : List Value} {T : Nat → ByteArray} (h : W.ownsRow B 34 8 v n xs) (hM : MsgList n (fun _ => (none, 0, 0)) T xs) : ∃ a c, v = .slice a n c ∧ SM W a n T := by
  rcases h.2 with ⟨rfl, rfl⟩ | ⟨g, cap, cur, rfl, _⟩
  · exact ⟨none, 0, rfl, fun i hi => by omega⟩
  · obtain ⟨cs, hm⟩ := own_msgs h hM
    exact ⟨_, cap, rfl, fun i hi => ⟨g, cs, rfl, hm⟩⟩
theorem msg_cell {W : World} {g n : Nat} {T : Nat → ByteArray} {cs : Array Value} (H : Msgs W g n (fun _ => (none, 0, 0)) (fun _ => none) T cs) {i : Nat} (hi : i < n) :
    W.cell? ⟨g, i * 8, none⟩ = some (.slice none 0 0) ∧ W.cell? ⟨g, i * 8 + 4, none⟩ = some (.string (T i)) ∧ W.cell? ⟨g, i * 8 + 6, none⟩ = some (.int .u8 0) := by
  have h := rangeAt_mid H.row (i * 8) (msgV (.slice none 0 0) (.pointer none) (T i)) (H.at8 i hi)
  exact ⟨h 0 _ rfl, h 4 _ rfl, h 6 _ rfl⟩
set_option maxHeartbeats 8000000 in
theorem walk (sa la sy ly : Int) (w : World) : Calls Tryd.prog 3 #[.int .i32 sa, .int .i32 la, .int .i32 sy, .int .i32 ly] w fun e w' => e = .returned (.bool true) ∧ Below w.heap.size w w' := by
  have hcl := cnt_le la ly
  go_enter Tryd.func3, Tryd.ntmps3
  go_wp2_with fail
  refine (newpar4 w w.heap.size (Nat.le_refl _) 0).mono ?_
  rintro e1 w1 ⟨p, k, mu, he, ms, rfl, l1, pl1, b1⟩
  have H1 := Lib.hid (And.intro l1 (And.intro pl1 b1))
  clear l1 pl1 b1
  go_wp2_with fail
  refine (zz5 p k mu he ms sa la sy ly w.heap.size _ 0 [] w1 H1.out.1 (by omega) H1.out.2.1).mono ?_
  rintro e2 w2 ⟨rfl, pl2, v2, l2, b2⟩
  rw [Nat.zero_add, List.nil_append] at l2
  have H2 := Lib.hid (And.intro l2 (And.intro pl2 (H1.out.2.2.trans b2)))
  clear l2 pl2 b2 H1
  go_wp2_with fail
  refine (msgs6 w.heap.size p k mu he ms 0 v2 (cntOf la ly) (logOf la ly) _ _ w2 H2.out.1 H2.out.2.1 (mlist la ly) (by omega)).mono ?_
  rintro e3 w3 ⟨rfl, l3, b3, k3⟩
  obtain ⟨a1, c1, rfl, s1⟩ := sm_of l3.own (mlist la ly)
  have H3 := Lib.hid (And.intro s1 (H2.out.2.2.trans b3))
  clear s1 l3 b3 k3 H2
  go_wp2_with fail
  refine (newpar4 w3 w3.heap.size (Nat.le_refl _) 0).mono ?_
  rintro e4 w4 ⟨p', k', mu', he', ms', rfl, l4, pl4, b4⟩
  have H4 := Lib.hid (And.intro l4 (And.intro pl4 b4))
  clear l4 pl4 b4
  go_wp2_with fail
  refine (zz5 p' k' mu' he' ms' sa la 0 0 w3.heap.size _ 0 [] w4 H4.out.1 (by omega) H4.out.2.1).mono ?_
  rintro e5 w5 ⟨rfl, pl5, v5, l5, b5⟩
  have H5 := Lib.hid (And.intro l5 (And.intro pl5 (H4.out.2.2.trans b5)))
  clear l5 pl5 b5 H4
  go_wp2_with fail
  refine (zz5 p' k' mu' he' ms' 0 0 sy ly w3.heap.size _ _ _ w5 H5.out.1 (by have := cnt_le la 0; omega) H5.out.2.1).mono ?_
  rintro e6 w6 ⟨rfl, pl6, v6, l6, b6⟩
  have ec : 0 + cntOf la 0 + cntOf 0 ly = cntOf la ly := by simp [cntOf]
  have el : [] ++ logOf la 0 ++ logOf 0 ly = logOf la ly := by simp [logOf]
  rw [ec, el] at l6
  have H6 := Lib.hid (And.intro l6 (And.intro pl6 (H5.out.2.2.trans b6)))
  clear l6 pl6 b6 H5 ec el
  go_wp2_with fail
  refine (msgs6 w3.heap.size p' k' mu' he' ms' 0 v6 (cntOf la ly) (logOf la ly) _ _ w6 H6.out.1 H6.out.2.1 (mlist la ly) (by omega)).mono ?_
  rintro e7 w7 ⟨rfl, l7, b7, k7⟩
  obtain ⟨a2, c2, rfl, s2⟩ := sm_of l7.own (mlist la ly)
  have hb37 := H6.out.2.2.trans b7
  have s1 : SM w7 a1 (cntOf la ly) (Tof la) := fun i hi => by
    obtain ⟨g, cs, hg, hm⟩ := H3.out.1 i hi
    exact ⟨g, cs, hg, hm.below hb37 (Nat.le_refl _)⟩
  have H7 := Lib.hid (And.intro s1 (And.intro s2 (H3.out.2.trans (hb37.mono H3.out.2.size))))
  clear s1 s2 l7 b7 k7 hb37 H6 H3
  generalize cntOf la ly = n at hcl H7 ⊢
  go_wp2_with fail
  go_loopw [13] (fun v13 wr => ∃ j q : Nat, j ≤ n ∧ v13 = .int .i64 j ∧ wr = w7.drewN q) (fun v13 _ => n - (intOf v13).toNat)
  case atStart => exact ⟨0, 0, Nat.zero_le _, rfl, rfl⟩
  case round =>
    obtain ⟨j, q, hj, rfl, rfl⟩ := hrel
    by_cases hlt : j < n
    · obtain ⟨g1, cs1, rfl, m1⟩ := H7.out.1 j hlt
      obtain ⟨g2, cs2, rfl, m2⟩ := H7.out.2.1 j hlt
      obtain ⟨x1, x2, x3⟩ := msg_cell m1 hlt
      obtain ⟨y1, y2, y3⟩ := msg_cell m2 hlt
      obtain ⟨tx, ht⟩ : ∃ tx, Tof la j = tx := ⟨_, rfl⟩
      rw [ht] at x2 y2
      have x1' : ∀ z, (w7.drewN z).cell? ⟨g1, j * 8, none⟩ = some (.slice none 0 0) := fun _ => x1
      have x2' : ∀ z, (w7.drewN z).cell? ⟨g1, j * 8 + 4, none⟩ = some (.string tx) := fun _ => x2
      have x3' : ∀ z, (w7.drewN z).cell? ⟨g1, j * 8 + 6, none⟩ = some (.int .u8 0) := fun _ => x3
      have y1' : ∀ z, (w7.drewN z).cell? ⟨g2, j * 8, none⟩ = some (.slice none 0 0) := fun _ => y1
      have y2' : ∀ z, (w7.drewN z).cell? ⟨g2, j * 8 + 4, none⟩ = some (.string tx) := fun _ => y2
      have y3' : ∀ z, (w7.drewN z).cell? ⟨g2, j * 8 + 6, none⟩ = some (.int .u8 0) := fun _ => y3
      clear m1 m2 ht
      go_wp2_with fail
      go_quiet (fail)
      go_wp2
      go_roundw
      case rel => exact ⟨j + 1, q + nq, by omega, by go_num, rfl⟩
      case measure => simp [intOf]; omega
    · obtain rfl : j = n := by omega
      go_wp2
      go_ret
      exact ⟨rfl, below_drewN H7.out.2.2 q⟩

end Go.Proofs.YtfbjlgjlbndmkadDoor.fnLogArrowArgErrorsSplit
