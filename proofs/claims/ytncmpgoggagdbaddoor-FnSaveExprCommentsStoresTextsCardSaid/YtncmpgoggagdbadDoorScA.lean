import Derived.Test.YtncmpgoggagdbadDoorKit
import Derived.Test.YtncmpgoggagdbadDoorMap
import Derived.Test.YtncmpgoggagdbadDoorRec
namespace Go.Proofs.YtncmpgoggagdbadDoor
open Go.ChangeShapes Go.WideShapes Go.ChangeAt Go.RowKit
set_option linter.unusedVariables false
set_option maxRecDepth 100000
set_option maxHeartbeats 2000000

open Go.MapKept Classical in
theorem keys_one {P : Program} {k : TypeId} {f0 : Field} (hk : P.underlying k = some (.struct #[f0])) (h0 : P.underlying f0.type = some (.int .i32)) (n0 : (f0.name ≠ "_") = True)
    (o0 : f0.offset = 0) (hs : P.stoodInHeld k = false) : KeysLike P k IsLoc := by
  refine keys_asking hk (by rintro v ⟨a, rfl⟩; exact ⟨_, rfl⟩) ?_ ?_ ?_
  · rintro e v w ⟨a, rfl⟩
    have p0 := run_part_int h0 w #[.int .i32 a] 0 a rfl
    have c0 := run_checkKey (w := w) (k := .int .i32 a) h0 (show IsKey (.int .i32) (.int .i32 a) from rfl) e 9998
    show (Instr.checkKey e (9999 + 1) k _).run P w = _
    rw [Instr.checkKey]
    simp [run_underlying hk, n0, o0, p0, c0]
  · rintro u v w ⟨a, rfl⟩ ⟨c, rfl⟩
    have p0 := run_part_int h0 w #[.int .i32 a] 0 a rfl
    have q0 := run_part_int h0 w #[.int .i32 c] 0 c rfl
    have e0 := run_equalIn_int w 9998 f0.type .i32 .i32 a c h0
    have hd : decide ((Value.agg #[.int .i32 a]) = .agg #[.int .i32 c]) = (a == c) := by
      rw [Bool.eq_iff_iff]
      simp
    rw [hd]
    show (Op.equalIn (9999 + 1) k _ _).run P w = _
    rw [Op.equalIn]
    cases hac : (a == c) <;> simp [run_underlying hk, n0, o0, p0, q0, e0, hs, hac]
  · rintro v ⟨a, rfl⟩
    simp [Instr.sameBits]

theorem keyL : KeysLike Tryd.prog 28 IsLoc := keys_one Tryd.underlying28 Tryd.underlying21 (by decide +kernel) rfl (by kernel_rfl)

/-- What the bound on the length says. -/
def Z4 (s a b : Nat) (w : World) (e : Ending) (w' : World) : Prop := ∃ q, e = .returned (.bool q) ∧ (q = true → s + a + b ≤ 1048576) ∧ w = w'
theorem zz4 (S : ByteArray) (a1 a2 : Option Addr) (n1 c1 n2 c2 : Nat) (b3 b4 : Bool) (w : World) (hS : S.size ≤ 9223372036854775807) (h1 : n1 ≤ 9223372036854775807) (h2 : n2 ≤ 9223372036854775807) :
    Calls Tryd.prog 4 #[.string S, .slice a1 n1 c1, .slice a2 n2 c2, .bool b3, .bool b4] w (Z4 S.size n1 n2 w) := by
  obtain ⟨s, hs⟩ : ∃ s, S.size = s := ⟨_, rfl⟩
  rw [hs] at hS ⊢
  by_cases g1 : 1048576 < s
  · as_aux_lemma =>
    go_enter Tryd.func4, Tryd.ntmps4
    go_wp2_with fail
    go_ret
    exact ⟨false, rfl, (fun e => by cases e), rfl⟩
  by_cases g2 : 1048576 < n1
  · as_aux_lemma =>
    go_enter Tryd.func4, Tryd.ntmps4
    go_wp2_with fail
    go_ret
    exact ⟨false, rfl, (fun e => by cases e), rfl⟩
  by_cases g3 : 1048576 < s + n1
  · as_aux_lemma =>
    go_enter Tryd.func4, Tryd.ntmps4
    go_wp2_with fail
    go_ret
    exact ⟨false, rfl, (fun e => by cases e), rfl⟩
  by_cases g4 : 1048576 < n2
  · as_aux_lemma =>
    go_enter Tryd.func4, Tryd.ntmps4
    go_wp2_with fail
    go_ret
    exact ⟨false, rfl, (fun e => by cases e), rfl⟩
  by_cases g5 : 1048576 < s + n1 + n2
  · as_aux_lemma =>
    go_enter Tryd.func4, Tryd.ntmps4
    go_wp2_with fail
    go_ret
    exact ⟨false, rfl, (fun e => by cases e), rfl⟩
  · go_enter Tryd.func4, Tryd.ntmps4
    go_wp2_with fail
    go_ret
    exact ⟨true, rfl, (fun _ => by omega), rfl⟩

theorem loc10 (b o : Nat) (w : World) (h : w.cell? ⟨b, o + 53, none⟩ = some (.int .i64 0)) :
    Calls Tryd.prog 10 #[.pointer (some ⟨b, o, none⟩)] w fun e w' => e = .returned (.agg #[.int .i32 0]) ∧ Below w.heap.size w w' := by
  have hb := cell_lt h
  go_enter Tryd.func10, Tryd.ntmps10
  go_wp2
  go_returns
  exact ⟨rfl, by go_grown⟩
theorem end12 (s l : Int) (w : World) (h0 : 0 ≤ s) (h1 : 0 ≤ l) (h2 : s + l ≤ 1000000) :
    Calls Tryd.prog 12 #[.agg #[.int .i32 s, .int .i32 l]] w fun e w' => e = .returned (.int .i32 (s + l)) ∧ Below w.heap.size w w' := by
  go_enter Tryd.func12, Tryd.ntmps12
  go_wp2
  go_ret
  exact ⟨by go_num, by go_grown⟩

end Go.Proofs.YtncmpgoggagdbadDoor
