import Derived.Test.YtfbjlgjlbndmkadDoorKit
import Derived.Test.YtfbjlgjlbndmkadDoorLaG
namespace Go.Proofs.YtfbjlgjlbndmkadDoor
open Go.ChangeShapes Go.WideShapes Go.ChangeAt Go.RowKit
set_option linter.unusedVariables false
set_option maxRecDepth 100000
set_option maxHeartbeats 2000000

open Go.MuLone
/-- What is logged. -/
def cntOf (la ly : Int) : Nat := (if 0 < la then 1 else 0) + (if 0 < ly then 1 else 0)
def mA : List Value := msgV (.slice none 0 0) (.pointer none) txA
def mY : List Value := msgV (.slice none 0 0) (.pointer none) txY
def logOf (la ly : Int) : List Value := (if 0 < la then mA else []) ++ (if 0 < ly then mY else [])
def Logged (B k mu he ms : Nat) (n : Nat) (ys : List Value) (m : Nat) (W : World) (e : Ending) (W' : World) : Prop := e = .returned (.tuple #[]) ∧ ∃ v, LG B k mu he ms 0 v (n + m) ys W' ∧ Kp W W' ∧ Below B W W'
set_option maxHeartbeats 4000000 in
theorem arrow8_11 (p q k mu he ms : Nat) (sa la sy ly : Int) (cs : Array Value) (B : Nat) (v : Value) (n : Nat) (xs : List Value) (W : World) (H : LG B k mu he ms 0 v n xs W) (hn : n ≤ 1000) (hS : S8 p q k mu he ms sa la sy ly cs W) (hc : cs[76]? = some (.bool false)) (ha : 0 < la) (hy : 0 < ly) :
    Calls Tryd.prog 8 #[.pointer (some ⟨p, 0, none⟩), .pointer (some ⟨q, 0, none⟩)] W (Logged B k mu he ms n ((xs ++ mA) ++ mY) 2 W) := by
  have q1 := hS.2.1.cellv (j := 1) (v := .int .i32 la) rfl
  have q3 := hS.2.1.cellv (j := 3) (v := .int .i32 ly) rfl
  have HH := Lib.hid H
  have HS := Lib.hid hS
  clear H hS
  go_enter Tryd.func8, Tryd.ntmps8
  go_wp2_with fail
  refine reg_conv rg8_1 (by kernel_rfl) ?_
  refine r8a (fun c a d v w h => by cases d <;> exact h) p q k mu he ms sa la sy ly cs B v n xs W HH.out (by omega) HS.out hc ?_
  intro W1 hA
  obtain ⟨_, v1, l1, k1, b1⟩ := hA
  have S1 := HS.out.kp k1
  have q3' := S1.2.1.cellv (j := 3) (v := .int .i32 ly) rfl
  have HA := Lib.hid (And.intro l1 (And.intro k1 b1))
  have HS1 := Lib.hid S1
  clear l1 k1 b1 S1 q1 q3
  go_wp2_with fail
  refine reg_conv rg8_3 (by kernel_rfl) ?_
  refine r8b (fun c a d v w h => by cases d <;> exact h) p q k mu he ms sa la sy ly cs B v1 (n + 1) (xs ++ mA) _ HA.out.1 (by omega) HS1.out hc ?_
  intro W2 hA2
  obtain ⟨_, v2, l2, k2, b2⟩ := hA2
  have HA2 := Lib.hid (And.intro l2 (And.intro k2 b2))
  clear l2 k2 b2
  go_wp2_with fail
  go_end0
  exact ⟨rfl, v2, (List.append_assoc xs mA mY ▸ HA2.out.1 : LG B k mu he ms 0 v2 (n + 2) (xs ++ (mA ++ mY)) W2), HA.out.2.1.trans HA2.out.2.1, HA.out.2.2.trans HA2.out.2.2⟩
set_option maxHeartbeats 4000000 in
theorem arrow8_10 (p q k mu he ms : Nat) (sa la sy ly : Int) (cs : Array Value) (B : Nat) (v : Value) (n : Nat) (xs : List Value) (W : World) (H : LG B k mu he ms 0 v n xs W) (hn : n ≤ 1000) (hS : S8 p q k mu he ms sa la sy ly cs W) (hc : cs[76]? = some (.bool false)) (ha : 0 < la) (hy : ¬ 0 < ly) :
    Calls Tryd.prog 8 #[.pointer (some ⟨p, 0, none⟩), .pointer (some ⟨q, 0, none⟩)] W (Logged B k mu he ms n (xs ++ mA) 1 W) := by
  have q1 := hS.2.1.cellv (j := 1) (v := .int .i32 la) rfl
  have q3 := hS.2.1.cellv (j := 3) (v := .int .i32 ly) rfl
  have HH := Lib.hid H
  have HS := Lib.hid hS
  clear H hS
  go_enter Tryd.func8, Tryd.ntmps8
  go_wp2_with fail
  refine reg_conv rg8_1 (by kernel_rfl) ?_
  refine r8a (fun c a d v w h => by cases d <;> exact h) p q k mu he ms sa la sy ly cs B v n xs W HH.out (by omega) HS.out hc ?_
  intro W1 hA
  obtain ⟨_, v1, l1, k1, b1⟩ := hA
  have S1 := HS.out.kp k1
  have q3' := S1.2.1.cellv (j := 3) (v := .int .i32 ly) rfl
  have HA := Lib.hid (And.intro l1 (And.intro k1 b1))
  have HS1 := Lib.hid S1
  clear l1 k1 b1 S1 q1 q3
  go_wp2_with fail
  go_end0
  exact ⟨rfl, v1, HA.out.1, HA.out.2.1, HA.out.2.2⟩
set_option maxHeartbeats 4000000 in
theorem arrow8_01 (p q k mu he ms : Nat) (sa la sy ly : Int) (cs : Array Value) (B : Nat) (v : Value) (n : Nat) (xs : List Value) (W : World) (H : LG B k mu he ms 0 v n xs W) (hn : n ≤ 1000) (hS : S8 p q k mu he ms sa la sy ly cs W) (hc : cs[76]? = some (.bool false)) (ha : ¬ 0 < la) (hy : 0 < ly) :
    Calls Tryd.prog 8 #[.pointer (some ⟨p, 0, none⟩), .pointer (some ⟨q, 0, none⟩)] W (Logged B k mu he ms n (xs ++ mY) 1 W) := by
  have q1 := hS.2.1.cellv (j := 1) (v := .int .i32 la) rfl
  have q3 := hS.2.1.cellv (j := 3) (v := .int .i32 ly) rfl
  have HH := Lib.hid H
  have HS := Lib.hid hS
  clear H hS
  go_enter Tryd.func8, Tryd.ntmps8
  go_wp2_with fail
  refine reg_conv rg8_3 (by kernel_rfl) ?_
  refine r8c (fun c a d v w h => by cases d <;> exact h) p q k mu he ms sa la sy ly cs B v n xs _ HH.out (by omega) HS.out hc ?_
  intro W2 hA2
  obtain ⟨_, v2, l2, k2, b2⟩ := hA2
  have HA2 := Lib.hid (And.intro l2 (And.intro k2 b2))
  clear l2 k2 b2
  go_wp2_with fail
  go_end0
  exact ⟨rfl, v2, HA2.out.1, HA2.out.2.1, HA2.out.2.2⟩
set_option maxHeartbeats 4000000 in
theorem arrow8_00 (p q k mu he ms : Nat) (sa la sy ly : Int) (cs : Array Value) (B : Nat) (v : Value) (n : Nat) (xs : List Value) (W : World) (H : LG B k mu he ms 0 v n xs W) (hn : n ≤ 1000) (hS : S8 p q k mu he ms sa la sy ly cs W) (hc : cs[76]? = some (.bool false)) (ha : ¬ 0 < la) (hy : ¬ 0 < ly) :
    Calls Tryd.prog 8 #[.pointer (some ⟨p, 0, none⟩), .pointer (some ⟨q, 0, none⟩)] W (Logged B k mu he ms n xs 0 W) := by
  have q1 := hS.2.1.cellv (j := 1) (v := .int .i32 la) rfl
  have q3 := hS.2.1.cellv (j := 3) (v := .int .i32 ly) rfl
  have HH := Lib.hid H
  have HS := Lib.hid hS
  clear H hS
  go_enter Tryd.func8, Tryd.ntmps8
  go_wp2_with fail
  go_end0
  exact ⟨rfl, v, HH.out, Kp.refl W, Below.refl _ _⟩
theorem arrow8 (p q k mu he ms : Nat) (sa la sy ly : Int) (cs : Array Value) (B : Nat) (v : Value) (n : Nat) (xs : List Value) (W : World) (H : LG B k mu he ms 0 v n xs W) (hn : n ≤ 1000) (hS : S8 p q k mu he ms sa la sy ly cs W) (hc : cs[76]? = some (.bool false)) :
    Calls Tryd.prog 8 #[.pointer (some ⟨p, 0, none⟩), .pointer (some ⟨q, 0, none⟩)] W (Logged B k mu he ms n (xs ++ logOf la ly) (cntOf la ly) W) := by
  by_cases ha : 0 < la
  · by_cases hy : 0 < ly
    · have := arrow8_11 p q k mu he ms sa la sy ly cs B v n xs W H hn hS hc ha hy
      unfold logOf cntOf
      rw [if_pos ha, if_pos hy, if_pos ha, if_pos hy, ← List.append_assoc]
      exact this
    · have := arrow8_10 p q k mu he ms sa la sy ly cs B v n xs W H hn hS hc ha hy
      unfold logOf cntOf
      rw [if_pos ha, if_neg hy, if_pos ha, if_neg hy, List.append_nil]
      exact this
  · by_cases hy : 0 < ly
    · have := arrow8_01 p q k mu he ms sa la sy ly cs B v n xs W H hn hS hc ha hy
      unfold logOf cntOf
      rw [if_neg ha, if_pos hy, if_neg ha, if_pos hy, List.nil_append]
      exact this
    · have := arrow8_00 p q k mu he ms sa la sy ly cs B v n xs W H hn hS hc ha hy
      unfold logOf cntOf
      rw [if_neg ha, if_neg hy, if_neg ha, if_neg hy, List.append_nil, List.append_nil]
      exact this
def Logged5 (B p k mu he ms : Nat) (n : Nat) (ys : List Value) (m : Nat) (W : World) (e : Ending) (W' : World) : Prop := e = .returned (.tuple #[]) ∧ PL p k mu he ms W' ∧ ∃ v, LG B k mu he ms 0 v (n + m) ys W' ∧ Below B W W'
set_option maxHeartbeats 4000000 in
theorem zz5 (p k mu he ms : Nat) (sa la sy ly : Int) (B : Nat) (v : Value) (n : Nat) (xs : List Value) (W : World) (H : LG B k mu he ms 0 v n xs W) (hn : n ≤ 1000) (hP : PL p k mu he ms W) :
    Calls Tryd.prog 5 #[.pointer (some ⟨p, 0, none⟩), .int .i32 sa, .int .i32 la, .int .i32 sy, .int .i32 ly] W (Logged5 B p k mu he ms n (xs ++ logOf la ly) (cntOf la ly) W) := by
  obtain ⟨cs, r, h1, h2⟩ := hP
  have hb : Below W.heap.size W (W.alloc (.cells #[.int .i32 sa, .int .i32 la, .int .i32 sy, .int .i32 ly] 168)) := (Below.refl _ _).alloc (Nat.le_refl _) _
  have hS : S8 p W.heap.size k mu he ms sa la sy ly cs (W.alloc (.cells #[.int .i32 sa, .int .i32 la, .int .i32 sy, .int .i32 ly] 168)) := ⟨r.alloc _, RowAt.new W _ 168, h1⟩
  have HS := Lib.hid hS
  have HH := Lib.hid (H.later hb)
  have HB := Lib.hid (hb.mono H.hB)
  clear hb hS H r
  go_enter Tryd.func5, Tryd.ntmps5
  go_wp2_with fail
  refine (arrow8 p W.heap.size k mu he ms sa la sy ly cs B v n xs _ HH.out hn HS.out h2).mono ?_
  rintro e1 w1 ⟨rfl, v1, l1, k1, b1⟩
  have HE : Hid (Logged5 B p k mu he ms n (xs ++ logOf la ly) (cntOf la ly) W (.returned (.tuple #[])) w1) := ⟨rfl, ⟨cs, k1 _ _ _ (by decide) (by decide) (by decide) (by decide) HS.out.1, h1, h2⟩, v1, l1, HB.out.trans b1⟩
  clear l1 k1 b1 HS HH HB h1 h2
  go_wp2_with fail
  go_end0
  exact HE.out


end Go.Proofs.YtfbjlgjlbndmkadDoor
