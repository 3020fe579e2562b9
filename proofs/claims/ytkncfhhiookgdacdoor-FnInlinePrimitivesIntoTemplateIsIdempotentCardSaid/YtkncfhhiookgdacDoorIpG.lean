import Derived.Test.YtkncfhhiookgdacDoorKit
import Derived.Test.YtkncfhhiookgdacDoorAs
import Derived.Test.YtkncfhhiookgdacDoorIpF
import Derived.Deep.RegionLaw
namespace Go.Proofs.YtkncfhhiookgdacDoor
open Go.ChangeShapes Go.WideShapes Go.ChangeAt Go.RowKit
set_option linter.unusedVariables false
set_option maxRecDepth 100000
set_option maxHeartbeats 2000000

open Go.Extern
def SomeB (w : World) (e : Ending) (w' : World) : Prop := ∃ b, e = .returned (.bool b) ∧ w = w'
set_option maxHeartbeats 4000000 in
theorem zz4 (a0 : Option Addr) (l0 c0 : Nat) (a1 : Option Addr) (l1 c1 : Nat) (a2 : Option Addr) (l2 c2 : Nat) (a3 : Option Addr) (l3 c3 : Nat) (A2 A3 : Nat → Option Addr) (L2 C2 L3 C3 : Nat → Nat) (p q : Int) (w : World)
    (h0 : l0 ≤ 9223372036854775807) (h1 : l1 ≤ 9223372036854775807) (h2 : l2 ≤ 9223372036854775807) (h3 : l3 ≤ 9223372036854775807)
    (k2 : ∀ i, i < l2 → ∃ x, a2 = some x ∧ w.cell? (x.add i) = some (.slice (A2 i) (L2 i) (C2 i)) ∧ L2 i ≤ 9223372036854775807) (k3 : ∀ i, i < l3 → ∃ x, a3 = some x ∧ w.cell? (x.add i) = some (.slice (A3 i) (L3 i) (C3 i)) ∧ L3 i ≤ 9223372036854775807) :
    Calls Tryd.prog 4 #[.slice a0 l0 c0, .slice a1 l1 c1, .slice a2 l2 c2, .slice a3 l3 c3, .int .i32 p, .int .i32 q] w (SomeB w) := by
  have K2 := Lib.hid k2
  have K3 := Lib.hid k3
  clear k2 k3
  by_cases g0 : 1048576 < l0
  · go_enter Tryd.func4, Tryd.ntmps4
    go_wp2_with fail
    go_ret
    exact ⟨_, rfl, rfl⟩
  by_cases g1 : 1048576 < l1
  · go_enter Tryd.func4, Tryd.ntmps4
    go_wp2_with fail
    go_ret
    exact ⟨_, rfl, rfl⟩
  by_cases g1s : 1048576 < l0 + l1
  · go_enter Tryd.func4, Tryd.ntmps4
    go_wp2_with fail
    go_ret
    exact ⟨_, rfl, rfl⟩
  by_cases g2 : 1048576 < l2
  · go_enter Tryd.func4, Tryd.ntmps4
    go_wp2_with fail
    go_ret
    exact ⟨_, rfl, rfl⟩
  by_cases g2s : 1048576 < l0 + l1 + l2
  · go_enter Tryd.func4, Tryd.ntmps4
    go_wp2_with fail
    go_ret
    exact ⟨_, rfl, rfl⟩
  go_enter Tryd.func4, Tryd.ntmps4
  go_wp2_with fail
  go_loopw [13, 14] (fun v8 v9 wr => ∃ (k : Nat) (t : Int), k ≤ l2 ∧ v8 = .int .i64 t ∧ v9 = .int .i64 k ∧ wr = w ∧ 0 ≤ t ∧ t ≤ 1048576) (fun _ v9 _ => l2 - (intOf v9).toNat)
  case atStart => exact ⟨0, _, Nat.zero_le _, rfl, rfl, rfl, by omega, by omega⟩
  case round =>
    obtain ⟨k, t, hk, rfl, rfl, rfl, ht0, ht1⟩ := hrel
    clear g0 g1 g1s g2s
    by_cases hlt : k < l2
    · obtain ⟨x, rfl, h1', h2'⟩ := K2.out k hlt
      by_cases hbig : 1048576 < L2 k
      · go_wp2_with fail
        go_ret
        exact ⟨_, rfl, rfl⟩
      · by_cases hs : 1048576 < t + (L2 k : Int)
        · go_wp2_with fail
          go_ret
          exact ⟨_, rfl, rfl⟩
        · go_wp2_with fail
          go_roundw
          case rel => exact ⟨k + 1, t + (L2 k : Int), by omega, by go_num, by go_num, trivial, by omega, by omega⟩
          case measure => simp [intOf]; omega
    · obtain rfl : k = l2 := by omega
      clear hlt
      by_cases g3 : 1048576 < l3
      · go_wp2_with fail
        go_ret
        exact ⟨_, rfl, rfl⟩
      by_cases g3s : 1048576 < t + (l3 : Int)
      · go_wp2_with fail
        go_ret
        exact ⟨_, rfl, rfl⟩
      go_wp2_with fail
      obtain ⟨wo, rfl⟩ : ∃ wo : World, wo = wr := ⟨_, rfl⟩
      go_loopw [13, 15] (fun v8 v10 wr => ∃ (k : Nat) (t : Int), k ≤ l3 ∧ v8 = .int .i64 t ∧ v10 = .int .i64 k ∧ wr = wo ∧ 0 ≤ t ∧ t ≤ 1048576) (fun _ v10 _ => l3 - (intOf v10).toNat)
      case atStart => exact ⟨0, _, Nat.zero_le _, rfl, rfl, rfl, by omega, by omega⟩
      case round =>
        obtain ⟨k3, t3, hk3, rfl, rfl, rfl, ht30, ht31⟩ := hrel
        clear g3s
        by_cases hlt : k3 < l3
        · obtain ⟨x, rfl, h1', h2'⟩ := K3.out k3 hlt
          by_cases hbig : 1048576 < L3 k3
          · go_wp2_with fail
            go_ret
            exact ⟨_, rfl, rfl⟩
          · by_cases hs : 1048576 < t3 + (L3 k3 : Int)
            · go_wp2_with fail
              go_ret
              exact ⟨_, rfl, rfl⟩
            · go_wp2_with fail
              go_roundw
              case rel => exact ⟨k3 + 1, t3 + (L3 k3 : Int), by omega, by go_num, by go_num, trivial, by omega, by omega⟩
              case measure => simp [intOf]; omega
        · obtain rfl : k3 = l3 := by omega
          go_wp2_with fail
          go_ret
          exact ⟨_, rfl, rfl⟩

end Go.Proofs.YtkncfhhiookgdacDoor
