import Derived.Test.YtjngpnijogfmdabKit
import Derived.Test.YtjngpnijogfmdabDhA
import Derived.Test.YtjngpnijogfmdabRow
import Derived.Test.YtjngpnijogfmdabAs
import Derived.Laws.BitsAllLaws
import Derived.Laws.Externs
namespace Go.Proofs.Ytjngpnijogfmdab.fnDuplicateCaseHashAgreesWithEquals
open Go.ChangeShapes Go.WideShapes Go.ChangeAt Go.RowKit
set_option linter.unusedVariables false
set_option maxRecDepth 100000
set_option maxHeartbeats 2000000

/-- HashCombine. -/
def hcV (s h : Int) : Int := bits .xor .u32 s ((h + 2654435769 + s * 64 + s / 4) % 4294967296)
theorem hcV_in (s h : Int) (hs : 0 ≤ s) (hs1 : s ≤ 4294967295) : 0 ≤ hcV s h ∧ hcV s h ≤ 4294967295 := by
  unfold hcV
  obtain ⟨k, hk⟩ : ∃ k, (h + 2654435769 + s * 64 + s / 4) % 4294967296 = k := ⟨_, rfl⟩
  rw [hk, u32_xor s k hs (by omega) (by omega) (by omega)]
  have : s.toNat ^^^ k.toNat < 2 ^ 32 := Nat.xor_lt_two_pow (by omega) (by omega)
  omega
theorem hc20 (s h : Int) (w : World) (hs : 0 ≤ s) (hs1 : s ≤ 4294967295) (hh : 0 ≤ h) (hh1 : h ≤ 4294967295) : Calls Try.prog 20 #[.int .u32 s, .int .u32 h] w fun e w' => e = .returned (.int .u32 (hcV s h)) ∧ w = w' := by
  go_enter Try.func20, Try.ntmps20
  go_wp2
  go_ret
  exact ⟨rfl, rfl⟩
theorem fb21 (f : Nat) (w : World) : (callFunc 21 #[.float .f64 f]).run Try.prog w = .ok (.value (.int .u64 f)) w :=
  (run_callFunc_extern (e := Extern.MathFloatBits.float64bits) Try.func21 (by kernel_rfl) (by kernel_rfl) (by kernel_rfl) (by kernel_rfl) _ w).trans rfl

/-- The hash of a value: in every later world. -/
def Hs (w : World) (d : Value) (h : Int) (ok : Bool) : Prop := ∀ (w' : World) (l : Int), Below w.heap.size w w' →
  Calls Try.prog 17 #[.agg #[d, .int .i32 l]] w' fun e w'' => e = .returned (.tuple #[.int .u32 h, .bool ok]) ∧ Below w'.heap.size w' w''
theorem Hs.below {w w1 : World} {d : Value} {h : Int} {ok : Bool} (H : Hs w d h ok) (hb : Below w.heap.size w w1) : Hs w1 d h ok := fun w' l hb' => H w' l (hb.trans (hb'.mono hb.size))

theorem hash_null (v : Value) (l : Int) (w : World) : Calls Try.prog 17 #[.agg #[.iface 46 v, .int .i32 l]] w fun e w' => e = .returned (.tuple #[.int .u32 0, .bool true]) ∧ Below w.heap.size w w' := by
  go_enter Try.func17, Try.ntmps17
  go_wp2
  go_ret2
  exact ⟨rfl, by go_grown⟩
theorem hash_undef (v : Value) (l : Int) (w : World) : Calls Try.prog 17 #[.agg #[.iface 49 v, .int .i32 l]] w fun e w' => e = .returned (.tuple #[.int .u32 1, .bool true]) ∧ Below w.heap.size w w' := by
  go_enter Try.func17, Try.ntmps17
  go_wp2
  go_ret2
  exact ⟨rfl, by go_grown⟩
theorem hash_arr (v : Value) (l : Int) (w : World) : Calls Try.prog 17 #[.agg #[.iface 65 v, .int .i32 l]] w fun e w' => e = .returned (.tuple #[.int .u32 0, .bool false]) ∧ Below w.heap.size w w' := by
  go_enter Try.func17, Try.ntmps17
  go_wp2
  go_ret2
  exact ⟨rfl, by go_grown⟩
theorem hash_bool (u : Nat) (b : Bool) (l : Int) (w : World) (hc : w.cell? ⟨u, 0, none⟩ = some (.bool b)) : Calls Try.prog 17 #[.agg #[.iface 51 (.pointer (some ⟨u, 0, none⟩)), .int .i32 l]] w fun e w' => e = .returned (.tuple #[.int .u32 (if b then hcV 2 1 else hcV 2 0), .bool true]) ∧ Below w.heap.size w w' := by
  have z := cell_lt hc
  cases b
  all_goals
    go_enter Try.func17, Try.ntmps17
    go_wp2_with (go_at_call 20; refine (hc20 _ _ _ (by omega) (by omega) (by omega) (by omega)).mono ?_; rintro e w1 ⟨rfl, rfl⟩)
    go_ret2
    exact ⟨rfl, by go_grown⟩
theorem hash_ident (u : Nat) (r : Int) (l : Int) (w : World) (hr : 0 ≤ r) (hr1 : r ≤ 4294967295) (hc : w.cell? ⟨u, 1, none⟩ = some (.int .u32 r)) : Calls Try.prog 17 #[.agg #[.iface 60 (.pointer (some ⟨u, 0, none⟩)), .int .i32 l]] w fun e w' => e = .returned (.tuple #[.int .u32 (hcV 6 r), .bool true]) ∧ Below w.heap.size w w' := by
  have z := cell_lt hc
  go_enter Try.func17, Try.ntmps17
  go_wp2_with (go_at_call 20; refine (hc20 _ _ _ (by omega) (by omega) (by omega) (by omega)).mono ?_; rintro e w1 ⟨rfl, rfl⟩)
  go_ret2
  exact ⟨rfl, by go_grown⟩
theorem hash_num (u f : Nat) (l : Int) (w : World) (hf : f < 18446744073709551616) (hc : w.cell? ⟨u, 0, none⟩ = some (.float .f64 f)) : Calls Try.prog 17 #[.agg #[.iface 54 (.pointer (some ⟨u, 0, none⟩)), .int .i32 l]] w fun e w' => e = .returned (.tuple #[.int .u32 (hcV (hcV 3 ((f : Int) % 4294967296)) ((f : Int) / 4294967296)), .bool true]) ∧ Below w.heap.size w w' := by
  have z := cell_lt hc
  have hb := fb21
  obtain ⟨k0, k1⟩ := hcV_in 3 ((f : Int) % 4294967296) (by omega) (by omega)
  go_enter Try.func17, Try.ntmps17
  go_wp2_with (go_at_call 20; refine (hc20 _ _ _ (by omega) (by omega) (by omega) (by omega)).mono ?_; rintro e w1 ⟨rfl, rfl⟩)
  go_ret2
  exact ⟨rfl, by go_grown⟩
theorem hash_enum (u : Nat) (d : Value) (l l1 h : Int) (ok : Bool) (w : World) (hc : w.cell? ⟨u, 0, none⟩ = some d) (hc1 : w.cell? ⟨u, 1, none⟩ = some (.int .i32 l1)) (H : Hs w d h ok) : Calls Try.prog 17 #[.agg #[.iface 69 (.pointer (some ⟨u, 0, none⟩)), .int .i32 l]] w fun e w' => e = .returned (.tuple #[.int .u32 h, .bool ok]) ∧ Below w.heap.size w w' := by
  have z := cell_lt hc
  have HH := Lib.hid H
  clear H
  go_enter Try.func17, Try.ntmps17
  go_wp2_with fail
  refine (HH.out _ l1 (by go_grown)).mono ?_
  rintro e w1 ⟨rfl, hb⟩
  go_wp2_with fail
  go_ret2
  exact ⟨rfl, Below.trans (by go_grown) (hb.mono (by go_size))⟩

end Go.Proofs.Ytjngpnijogfmdab.fnDuplicateCaseHashAgreesWithEquals
