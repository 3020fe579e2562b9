import Derived.Test.YtfmfniddnlpkmaaDoorKit
import Derived.Test.YtfmfniddnlpkmaaDoorObI
namespace Go.Proofs.YtfmfniddnlpkmaaDoor
open Go.ChangeShapes Go.WideShapes Go.ChangeAt Go.RowKit
set_option linter.unusedVariables false
set_option maxRecDepth 100000
set_option maxHeartbeats 2000000

theorem Obj32.below {w w' : World} {EO PR n : Nat} {sl : Bool} {qf : Nat → Nat} {Bf : Nat → Bool} (h : Obj32 w EO PR n sl qf Bf) (hb : Below w.heap.size w w') : Obj32 w' EO PR n sl qf Bf := by
  obtain ⟨⟨es, h1, h2⟩, ⟨cs, h3, h4⟩⟩ := h
  exact ⟨⟨es, h1.below hb h1.lt, h2⟩, ⟨cs, h3.below hb h3.lt, h4⟩⟩
theorem cnt_zero (Bf : Nat → Bool) : ∀ n, (∀ i, i < n → Bf i = false) → (cnt Bf n).1 = 0
  | 0, _ => rfl
  | n + 1, h => by
    unfold cnt
    rw [if_neg (by rw [h n (by omega)]; decide)]
    exact cnt_zero Bf n fun i hi => h i (by omega)
/-- Is a run open: the last property was no spread. -/
theorem cnt_open (Bf : Nat → Bool) (n : Nat) : (cnt Bf (n + 1)).2.2 = !Bf n := by
  unfold cnt
  cases h : Bf n <;> simp
/-- The counts that the law looks for. -/
def FF (a : Bool) (Bf : Nat → Bool) (n : Nat) : Nat × Nat := if a = true ∧ 0 < (cnt Bf n).1 then ((cnt Bf n).1, (cnt Bf n).2.1 + plus (cnt Bf n).2.2) else (0, 0)
theorem fm_bits (a : Bool) : (bits BinOp.and IntKind.u64 (fm a) 35184372088832 ≠ 0) = (a = true) := by
  cases a
  · have h : bits BinOp.and IntKind.u64 (fm false) 35184372088832 = 0 := by decide +kernel
    simp [h]
  · have h : bits BinOp.and IntKind.u64 (fm true) 35184372088832 = 35184372088832 := by decide +kernel
    simp [h]
theorem low32 (p S mm EO PR n : Nat) (a : Bool) (loc : Int) (sl : Bool) (qf : Nat → Nat) (Bf : Nat → Bool) (w : World) (hn : n ≤ 65536) (h : OS w p S mm (fm a) 0 0) (ho : Obj32 w EO PR n sl qf Bf) :
    Calls Tryd.prog 32 #[.pointer (some ⟨p, 0, none⟩), .agg #[.int .i32 loc], .pointer (some ⟨EO, 0, none⟩)] w (Low p S mm (fm a) loc (FF a Bf n).1 (FF a Bf n).2 w) := by
  by_cases hc : a = true ∧ 0 < (cnt Bf n).1
  · have hex : ∃ i, i < n ∧ Bf i = true := by
      refine Classical.byContradiction fun hno => ?_
      have := cnt_zero Bf n fun i hi => by
        cases hb : Bf i
        · rfl
        · exact absurd ⟨i, hi, hb⟩ hno
      omega
    obtain ⟨i0, hi0, hB0⟩ := hex
    have hF : FF a Bf n = ((cnt Bf n).1, (cnt Bf n).2.1 + plus (cnt Bf n).2.2) := if_pos hc
    rw [hF]
    exact lower32Y p S mm EO PR n (fm a) loc sl qf Bf w hn h ho (by rw [fm_bits]; exact hc.1) i0 hi0 hB0
  · have hF : FF a Bf n = (0, 0) := if_neg hc
    rw [hF]
    refine lower32N p S mm EO PR n (fm a) loc 0 0 sl qf Bf w hn h ho fun hu i hi => ?_
    rw [fm_bits] at hu
    cases hb : Bf i
    · rfl
    · exact absurd ⟨hu, cnt_pos Bf hb n hi⟩ hc
theorem clone2 (a : Option Addr) (n cap : Nat) (Bf : Nat → Bool) (w : World) (hn : n ≤ 65536) (h : IsBools w a n cap Bf) :
    Calls Tryd.prog 21 #[.slice a n cap] w fun e w' => ∃ fs FB, e = .returned (.slice fs n n) ∧ (n = 0 ∧ fs = none ∨ fs = some ⟨FB, 0, none⟩ ∧ RowUpTo w' FB 4 n n (fun i => .bool (Bf i))) ∧ Below w.heap.size w w' := by
  rcases h with ⟨rfl, rfl, rfl⟩ | ⟨x, rfl, hl, hm, hc⟩
  · refine (clone21_nil w).mono ?_
    rintro e w' ⟨rfl, rfl⟩
    exact ⟨none, 0, rfl, .inl ⟨rfl, rfl⟩, Below.refl _ _⟩
  · refine (clone21 x n cap Bf w (by omega) fun i hi => hc i (by omega)).mono ?_
    rintro e w' ⟨rfl, h1, h2⟩
    exact ⟨_, w.heap.size, rfl, .inr ⟨rfl, h1⟩, h2⟩
theorem zz20 (a0 : Int) (a1 a3 : Bool) (a : Option Addr) (n cap : Nat) (w : World) : Calls Tryd.prog 20 #[.int .i32 a0, .bool a1, .slice a n cap, .bool a3] w fun e w' => e = .returned (.bool (decide (n ≤ 1048576))) ∧ w = w' := by
  by_cases h : 1048576 < n
  · have h' : ¬ n ≤ 1048576 := by omega
    have hd : decide (n ≤ 1048576) = false := by simpa using h'
    rw [hd]
    go_enter Tryd.func20, Tryd.ntmps20
    go_wp2_with fail
    go_ret
    exact ⟨rfl, rfl⟩
  · have h' : n ≤ 1048576 := by omega
    have hd : decide (n ≤ 1048576) = true := by simpa using h'
    rw [hd]
    clear hd h'
    go_enter Tryd.func20, Tryd.ntmps20
    go_wp2_with fail
    go_ret
    exact ⟨rfl, rfl⟩

end Go.Proofs.YtfmfniddnlpkmaaDoor
