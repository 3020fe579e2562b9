import Derived.Test.YtjngpnijogfmdabKit
import Derived.Test.YtjngpnijogfmdabDhB
namespace Go.Proofs.Ytjngpnijogfmdab.fnDuplicateCaseHashAgreesWithEquals
open Go.ChangeShapes Go.WideShapes Go.ChangeAt Go.RowKit
set_option linter.unusedVariables false
set_option maxRecDepth 100000
set_option maxHeartbeats 2000000

/-- The hash of the first n units. -/
def hs (z : Nat → Int) : Nat → Int
  | 0 => 4
  | n + 1 => hcV (hs z n) (z n)
theorem hs_in (z : Nat → Int) : ∀ n, 0 ≤ hs z n ∧ hs z n ≤ 4294967295
  | 0 => ⟨by rw [hs]; decide, by rw [hs]; decide⟩
  | n + 1 => hcV_in _ _ (hs_in z n).1 (hs_in z n).2
theorem hs_congr {z y : Nat → Int} : ∀ n, (∀ i, i < n → z i = y i) → hs z n = hs y n
  | 0, _ => rfl
  | n + 1, h => by
    rw [hs, hs, hs_congr n (fun i hi => h i (by omega)), h n (by omega)]

/-- n units lie at a. -/
def Us (w : World) (a : Option Addr) (n : Nat) (z : Nat → Int) : Prop := ∀ i, i < n → ∃ x, a = some x ∧ w.cell? (x.add i) = some (.int .u16 (z i)) ∧ 0 ≤ z i ∧ z i ≤ 65535
theorem Us.below {w w1 : World} {a : Option Addr} {n : Nat} {z : Nat → Int} (H : Us w a n z) (hb : Below w.heap.size w w1) : Us w1 a n z := fun i hi => by
  obtain ⟨x, e, hc, r⟩ := H i hi
  exact ⟨x, e, later hc hb, r⟩

theorem hash_str (u : Nat) (a : Option Addr) (n c : Nat) (z : Nat → Int) (l : Int) (w : World) (hn : n ≤ 1048576) (hc : w.cell? ⟨u, 0, none⟩ = some (.slice a n c)) (hz : Us w a n z) : Calls Try.prog 17 #[.agg #[.iface 57 (.pointer (some ⟨u, 0, none⟩)), .int .i32 l]] w fun e w' => e = .returned (.tuple #[.int .u32 (hs z n), .bool true]) ∧ Below w.heap.size w w' := by
  have zu := cell_lt hc
  have HZ := Lib.hid hz
  clear hz
  go_enter Try.func17, Try.ntmps17
  go_wp2_with fail
  go_loopw [11, 77] (fun v11 v77 wr => ∃ k : Nat, k ≤ n ∧ v77 = .int .i64 k ∧ v11 = .int .u32 (hs z k) ∧ Below w.heap.size w wr) (fun _ v77 _ => n - (intOf v77).toNat)
  case atStart => exact ⟨0, Nat.zero_le _, rfl, rfl, by go_grown⟩
  case round =>
    obtain ⟨k, hk, rfl, rfl, hb⟩ := hrel
    by_cases hlt : k < n
    · obtain ⟨x, rfl, hcx, z0, z1⟩ := HZ.out k hlt
      have hcl := later hcx hb
      obtain ⟨h0, h1⟩ := hs_in z k
      obtain ⟨v, hv⟩ : ∃ v, z k = v := ⟨_, rfl⟩
      rw [hv] at hcl z0 z1
      obtain ⟨g, hg⟩ : ∃ g, hs z k = g := ⟨_, rfl⟩
      rw [hg] at h0 h1 ⊢
      have HV := Lib.hid hv
      have HG := Lib.hid hg
      clear hv hg hcx
      go_wp2_with (go_at_call 20; refine (hc20 _ _ _ (by omega) (by omega) (by omega) (by omega)).mono ?_; rintro e w1 ⟨rfl, rfl⟩)
      go_roundw
      case rel => exact ⟨k + 1, by omega, by go_num, by rw [hs, HG.out, HV.out], hb⟩
      case measure => simp [intOf]; omega
    · obtain rfl : k = n := by omega
      go_wp2_with fail
      go_ret2
      exact ⟨rfl, hb⟩

end Go.Proofs.Ytjngpnijogfmdab.fnDuplicateCaseHashAgreesWithEquals
