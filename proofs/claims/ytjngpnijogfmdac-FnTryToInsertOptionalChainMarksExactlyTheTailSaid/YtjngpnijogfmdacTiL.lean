import Derived.Test.YtjngpnijogfmdacKit
import Derived.Test.YtjngpnijogfmdacTiK
namespace Go.Proofs.Ytjngpnijogfmdac.fnTryToInsertOptionalChainMarksExactlyTheTail
open Go.ChangeShapes Go.WideShapes Go.ChangeAt Go.RowKit
set_option linter.unusedVariables false
set_option maxRecDepth 100000
set_option maxHeartbeats 2000000

theorem flag11 (x : St) (T v u : Nat) (f : Int) (w : World) (h : nodeRow w T v (x, u, f)) : Calls Try.prog 11 #[.agg #[nodeP x u 0, nodeP x u 1, nodeP x u 2]] w fun e w' => e = .returned (.int .u8 f) ∧ Below w.heap.size w w' := by
  cases x with
  | dot nm =>
    have hr : RowAt w u (dotRow T v nm f) 54 := h
    have c4 := hr.cellv (j := 4) (v := .int .u8 f) rfl
    have lu := hr.lt
    clear h hr
    show Calls Try.prog 11 #[.agg #[.pointer (some ⟨u, 0, none⟩), .pointer none, .pointer none]] w _
    go_enter Try.func11, Try.ntmps11
    go_wp2
    go_ret
    exact ⟨rfl, by go_grown⟩
  | idx nm =>
    obtain ⟨b, hr, _⟩ := h
    have c5 := hr.cellv (j := 5) (v := .int .u8 f) rfl
    have lu := hr.lt
    clear hr
    show Calls Try.prog 11 #[.agg #[.pointer none, .pointer (some ⟨u, 0, none⟩), .pointer none]] w _
    go_enter Try.func11, Try.ntmps11
    go_wp2
    go_ret
    exact ⟨rfl, by go_grown⟩
  | call =>
    have hr : RowAt w u (callRow T v f) 65 := h
    have c4 := hr.cellv (j := 4) (v := .int .u8 f) rfl
    have lu := hr.lt
    clear h hr
    show Calls Try.prog 11 #[.agg #[.pointer none, .pointer none, .pointer (some ⟨u, 0, none⟩)]] w _
    go_enter Try.func11, Try.ntmps11
    go_wp2
    go_ret
    exact ⟨rfl, by go_grown⟩

theorem key15 (ak : Option Addr) (n : Nat) (z : Nat → Int) (an : Option Addr) (nn : Nat) (S : Nat → ByteArray) (bk : Option Addr) (m : Nat) (y : Nat → Int) (bn : Option Addr) (mm : Nat) (S' : Nat → ByteArray) (i : Nat) (w : World) (hi : i < n) (hi' : i < m) (hn : n ≤ 4096) (hm : m ≤ 4096) (hnn : nn ≤ 65536) (hmm : mm ≤ 65536)
    (hz : K8s w ak n z) (hs : Strs w an nn S) (hy : K8s w bk m y) (hs' : Strs w bn mm S') :
    Calls Try.prog 15 #[.slice ak n n, .slice an nn nn, .slice bk m m, .slice bn mm mm, .int .i64 i] w fun e w' => e = .returned (.bool (decide (stp z nn S i = stp y mm S' i))) ∧ w = w' := by
  obtain ⟨x, rfl, hc, z0, z1⟩ := hz i hi
  obtain ⟨x', rfl, hc', y0, y1⟩ := hy i hi'
  unfold stp
  obtain ⟨p, hp⟩ : ∃ p, z i = p := ⟨_, rfl⟩
  obtain ⟨q, hq⟩ : ∃ q, y i = q := ⟨_, rfl⟩
  rw [hp] at hc z0 z1 ⊢
  rw [hq] at hc' y0 y1 ⊢
  have N1 := name12 an nn S i w (by omega) (by omega) hs
  have N2 := name12 bn mm S' i w (by omega) (by omega) hs'
  obtain ⟨a, ha⟩ : ∃ a, nameOf nn S i = a := ⟨_, rfl⟩
  obtain ⟨b, hb⟩ : ∃ b, nameOf mm S' i = b := ⟨_, rfl⟩
  rw [ha] at N1 ⊢
  rw [hb] at N2 ⊢
  have HN1 := Lib.hid N1
  have HN2 := Lib.hid N2
  obtain ⟨D, hD⟩ : ∃ D, decide ((if p % 3 = 0 then St.dot a else if p % 3 = 1 then St.idx a else St.call) = (if q % 3 = 0 then St.dot b else if q % 3 = 1 then St.idx b else St.call)) = D := ⟨_, rfl⟩
  rw [hD]
  have HD := Lib.hid hD
  clear N1 N2 ha hb hp hq hz hy hs hs' hD
  by_cases hk : p % 3 = q % 3
  · by_cases h2 : q % 3 = 2
    · have h1 := hk.trans h2
      have e : decide ((if p % 3 = 0 then St.dot a else if p % 3 = 1 then St.idx a else St.call) = (if q % 3 = 0 then St.dot b else if q % 3 = 1 then St.idx b else St.call)) = true := by simp [h1, h2]
      have HE := Lib.hid e
      clear e hk
      go_enter Try.func15, Try.ntmps15
      go_wp2_with fail
      go_ret
      exact ⟨ret_bool (HD.out.symm.trans HE.out).symm, rfl⟩
    · have h0 : q % 3 = 0 ∨ q % 3 = 1 := by omega
      have e : decide ((if p % 3 = 0 then St.dot a else if p % 3 = 1 then St.idx a else St.call) = (if q % 3 = 0 then St.dot b else if q % 3 = 1 then St.idx b else St.call)) = decide (a = b) := by
        rcases h0 with h0 | h0 <;> simp [hk, h0]
      have HE := Lib.hid e
      clear e
      have hp2 : ¬ p % 3 = 2 := by omega
      go_enter Try.func15, Try.ntmps15
      have HAB : Hid ((a.toList == b.toList) = decide (a = b)) := by
        by_cases hab : a = b
        · subst hab
          simp [Hid]
        · rw [decide_eq_false hab]
          exact (Lib.bytes_beq_false_iff a b).2 hab
      go_wp2_with (first | (go_at_call 12; first | (with_reducible refine HN1.out.mono ?_; rintro e w1 ⟨rfl, rfl⟩) | (with_reducible refine HN2.out.mono ?_; rintro e w1 ⟨rfl, rfl⟩)))
      all_goals
        go_ret
        exact ⟨ret_bool (HAB.out.trans (HD.out.symm.trans HE.out).symm), rfl⟩
  · have e : decide ((if p % 3 = 0 then St.dot a else if p % 3 = 1 then St.idx a else St.call) = (if q % 3 = 0 then St.dot b else if q % 3 = 1 then St.idx b else St.call)) = false := by
      apply decide_eq_false
      intro h
      split at h <;> split at h <;> (try split at h) <;> (try split at h) <;> first | omega | cases h
    have HE := Lib.hid e
    clear e
    go_enter Try.func15, Try.ntmps15
    go_wp2_with fail
    go_ret
    exact ⟨ret_bool (HD.out.symm.trans HE.out).symm, rfl⟩

end Go.Proofs.Ytjngpnijogfmdac.fnTryToInsertOptionalChainMarksExactlyTheTail
