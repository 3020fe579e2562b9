import Derived.Test.YtkncfhhiookgdacDoorKit
import Derived.Test.YtkncfhhiookgdacDoorAs
import Derived.Test.YtkncfhhiookgdacDoorIpE
import Derived.Deep.RegionLaw
namespace Go.Proofs.YtkncfhhiookgdacDoor
open Go.ChangeShapes Go.WideShapes Go.ChangeAt Go.RowKit
set_option linter.unusedVariables false
set_option maxRecDepth 100000
set_option maxHeartbeats 2000000

open Go.Extern
theorem nested5 (a : Option Addr) (len cap : Nat) (A : Nat → Option Addr) (L C : Nat → Nat) (w : World) (hn : len ≤ 4096) (hc : ∀ i, i < len → ∃ x, a = some x ∧ w.cell? (x.add i) = some (.slice (A i) (L i) (C i)) ∧ L i ≤ 9223372036854775807) :
    Calls Tryd.prog 5 #[.slice a len cap] w fun e w' => ∃ t : Int, e = .returned (.int .i64 t) ∧ w = w' ∧ 0 ≤ t ∧ t ≤ 4194304 ∧ (t ≤ 1048576 → ∀ i, i < len → L i ≤ 1048576) := by
  have HC := Lib.hid hc
  clear hc
  go_enter Tryd.func5, Tryd.ntmps5
  go_wp2_with fail
  go_loopw [3, 4] (fun v3 v4 wr => ∃ (k : Nat) (t : Int), k ≤ len ∧ v3 = .int .i64 t ∧ v4 = .int .i64 k ∧ wr = w ∧ 0 ≤ t ∧ t ≤ 1048576 ∧ ∀ i, i < k → L i ≤ 1048576) (fun _ v4 _ => len - (intOf v4).toNat)
  case atStart => exact ⟨0, 0, Nat.zero_le _, rfl, rfl, rfl, by omega, by omega, fun i hi => by omega⟩
  case round =>
    obtain ⟨k, t, hk, rfl, rfl, rfl, ht0, ht1, hL⟩ := hrel
    have HL := Lib.hid hL
    clear hL
    by_cases hlt : k < len
    · obtain ⟨x, rfl, h1, h2⟩ := HC.out k hlt
      by_cases hbig : 1048576 < L k
      · go_wp2_with fail
        go_ret
        exact ⟨1048577, rfl, rfl, by omega, by omega, fun h => by omega⟩
      · by_cases hs : 1048576 < t + (24 + 2 * (L k : Int))
        · go_wp2_with fail
          go_ret
          exact ⟨t + (24 + 2 * (L k : Int)), rfl, rfl, by omega, by omega, fun h => by omega⟩
        · go_wp2_with fail
          go_roundw
          case rel => exact ⟨k + 1, t + (24 + 2 * (L k : Int)), by omega, by go_num, by go_num, trivial, by omega, by omega, fun i hi => by
            by_cases e : i = k
            · subst e; omega
            · exact HL.out i (by omega)⟩
          case measure => simp [intOf]; omega
    · obtain rfl : k = len := by omega
      go_wp2_with fail
      go_ret
      exact ⟨t, rfl, rfl, ht0, by omega, fun _ => HL.out⟩

end Go.Proofs.YtkncfhhiookgdacDoor
