import Derived.Test.YtfmfniddnlpkmaaDoorKit
import Derived.Test.YtfmfniddnlpkmaaDoorViD
namespace Go.Proofs.YtfmfniddnlpkmaaDoor
open Go.ChangeShapes Go.WideShapes Go.ChangeAt Go.RowKit
set_option linter.unusedVariables false
set_option maxRecDepth 100000
set_option maxHeartbeats 2000000

theorem has33 (a : Int) (w : World) : Calls Tryd.prog 33 #[.int .u64 a, .int .u64 17179869184] w fun e w' => e = .returned (.bool (bits BinOp.and IntKind.u64 a 17179869184 != 0)) ∧ w = w' := by
  go_enter Tryd.func33, Tryd.ntmps33
  go_wp2_with fail
  go_ret
  exact ⟨rfl, rfl⟩
theorem keep34 (a : Int) (w : World) : Calls Tryd.prog 34 #[.int .u8 a] w fun e w' => e = .returned (.bool (a == 0 || a == 3)) ∧ w = w' := by
  go_enter Tryd.func34, Tryd.ntmps34
  go_wp2_with fail
  all_goals (go_ret; refine ⟨?_, rfl⟩; simp_all)
/-- Is the expression rewritten? -/
def rew (un mode fmt : Int) : Bool := (bits BinOp.and IntKind.u64 un 17179869184 != 0) || ((mode != 0) && !(fmt == 0 || fmt == 3))

def Val27N (B p : Nat) (src un mode fmt : Int) (n : Nat) (ts : Bool) (w : World) (e : Ending) (w' : World) : Prop :=
  e = .returned (.tuple #[.agg #[.nilIface, .int .i32 0], .bool false]) ∧ StA w' B p src un mode fmt n ts ∧ Below B w w'
theorem StA.base {w : World} {B p n : Nat} {src un mode fmt : Int} {ts : Bool} (h : StA w B p src un mode fmt n ts) : B ≤ w.heap.size := by
  obtain ⟨cs, M, ms, S, xs, vt, rp, pc, rm, m5, ho, hu, bp, bm⟩ := h
  have := rp.lt
  omega
theorem val27N (B p : Nat) (src un mode fmt loc : Int) (n : Nat) (ts : Bool) (w : World) (h : StA w B p src un mode fmt n ts) (hr : rew un mode fmt = false) :
    Calls Tryd.prog 27 #[.pointer (some ⟨p, 0, none⟩), .agg #[.int .i32 loc]] w (Val27N B p src un mode fmt n ts w) := by
  have hB := h.base
  obtain ⟨cs, M, ms, S, xs, vt, rp, pc, rm, m5, ho, hu, bp, bm⟩ := id h
  have c23 := rp.cellv pc.c23
  have c34 := rp.cellv pc.c34
  have c36 := rp.cellv pc.c36
  have zp := rp.lt
  have zp1 : p < w.heap.size + 1 := by omega
  have zp2 : p < w.heap.size + 1 + 1 := by omega
  have H33 := Lib.hid (fun W => has33 un W)
  have H34 := Lib.hid (fun W => keep34 fmt W)
  unfold rew at hr
  obtain ⟨q, hq⟩ : ∃ q, (bits BinOp.and IntKind.u64 un 17179869184 != 0) = q := ⟨_, rfl⟩
  obtain ⟨k, hk⟩ : ∃ k, (fmt == 0 || fmt == 3) = k := ⟨_, rfl⟩
  rw [hq] at H33
  rw [hk] at H34
  rw [hq, hk] at hr
  have HH := Lib.hid h
  clear hq hk rp pc rm m5 ho hu h
  cases q
  · by_cases hm : mode = 0
    · subst hm
      clear hr
      go_enter Tryd.func27, Tryd.ntmps27
      go_wp2_with (first | (go_at_call 33; refine (H33.out _).mono ?_; rintro e wx ⟨rfl, rfl⟩) | (go_at_call 34; refine (H34.out _).mono ?_; rintro e wx ⟨rfl, rfl⟩))
      go_returns
      exact ⟨rfl, HH.out.below (((Below.refl _ _).alloc (Nat.le_refl _) _).alloc (by simp) _), by go_grown⟩
    · have hm' : (mode == 0) = false := by simpa using hm
      have hk : k = true := by
        cases k
        · simp [hm'] at hr
          exact absurd hr hm
        · rfl
      subst hk
      have hm2 : (mode != 0) = true := by simpa using hm
      clear hr
      go_enter Tryd.func27, Tryd.ntmps27
      go_wp2_with (first | (go_at_call 33; refine (H33.out _).mono ?_; rintro e wx ⟨rfl, rfl⟩) | (go_at_call 34; refine (H34.out _).mono ?_; rintro e wx ⟨rfl, rfl⟩))
      go_returns
      exact ⟨rfl, HH.out.below (((Below.refl _ _).alloc (Nat.le_refl _) _).alloc (by simp) _), by go_grown⟩
  · simp at hr

end Go.Proofs.YtfmfniddnlpkmaaDoor
