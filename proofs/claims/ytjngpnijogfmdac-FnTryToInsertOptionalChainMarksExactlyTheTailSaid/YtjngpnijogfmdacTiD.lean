import Derived.Test.YtjngpnijogfmdacKit
import Derived.Test.YtjngpnijogfmdacTiC
import Derived.MapKept
import Derived.Lib.SlicesS
namespace Go.Proofs.Ytjngpnijogfmdac.fnTryToInsertOptionalChainMarksExactlyTheTail
open Go.ChangeShapes Go.WideShapes Go.ChangeAt Go.RowKit
set_option linter.unusedVariables false
set_option maxRecDepth 100000
set_option maxHeartbeats 2000000

theorem drewN_add (w : World) (n m : Nat) : (w.drewN n).drewN m = w.drewN (n + m) := by
  simp [World.drewN, Nat.add_assoc]
/-- As a quiet region wants a call. -/
theorem quietly {P : Program} {f : FuncId} {args : Array Value} {w : World} {n : Nat} {v : Value} (h : Calls P f args (w.drewN n) (Quiet (w.drewN n) v)) : Calls P f args (w.drewN n) fun e w'' => e = .returned v ∧ ∃ m, w'' = w.drewN m :=
  h.mono fun _ _ ⟨he, m, hm⟩ => ⟨he, n + m, hm.trans (drewN_add w n m)⟩

theorem vls_dot (u u' T v T1 v1 : Nat) (nm nm' : ByteArray) (b : Bool) (w : World) (h : RowAt w u (dotRow T v nm 0) 54) (h' : RowAt w u' (dotRow T1 v1 nm' 0) 54)
    (H : ∀ m, Calls Try.prog 14 #[.iface T (.pointer (some ⟨v, 0, none⟩)), .iface T1 (.pointer (some ⟨v1, 0, none⟩))] (w.drewN m) (Vls (w.drewN m) b)) :
    Calls Try.prog 14 #[.iface 42 (.pointer (some ⟨u, 0, none⟩)), .iface 42 (.pointer (some ⟨u', 0, none⟩))] w (Vls w (decide (nm = nm') && b)) := by
  have c0 := fun m => (h.drewN m).cellv (j := 0) (v := .iface T (.pointer (some ⟨v, 0, none⟩))) rfl
  have c2 := fun m => (h.drewN m).cellv (j := 2) (v := .string nm) rfl
  have d0 := fun m => (h'.drewN m).cellv (j := 0) (v := .iface T1 (.pointer (some ⟨v1, 0, none⟩))) rfl
  have d2 := fun m => (h'.drewN m).cellv (j := 2) (v := .string nm') rfl
  have HF := Lib.hid (fun m => quietly (w := w) (n := m) (flag16 u u' T T1 v v1 nm nm' (w.drewN m) (h.drewN m) (h'.drewN m)))
  have HV := Lib.hid (fun m => quietly (w := w) (n := m) (v := .bool b) (H m))
  clear h h' H
  by_cases e : nm = nm'
  · subst e
    have hbb : (nm == nm) = true := (MapKept.bytes_beq nm nm).2 rfl
    simp only [decide_true, Bool.true_and]
    cases b
    · go_enter Try.func14, Try.ntmps14
      go_wp2_with fail
      go_quiet (first | (go_at_call 16; exact HF.out _) | (go_at_call 14; exact HV.out _))
      go_wp2_with (go_at_call 20; refine (check20 _ _ _ _ _ _ (by decide) (by decide)).mono ?_; rintro e w1 ⟨rfl, rfl⟩)
      go_ret
      exact ⟨rfl, _, rfl⟩
    · go_enter Try.func14, Try.ntmps14
      go_wp2_with fail
      go_quiet (first | (go_at_call 16; exact HF.out _) | (go_at_call 14; exact HV.out _))
      go_wp2_with fail
      go_ret
      exact ⟨rfl, _, rfl⟩
  · have hbb : (nm.toList == nm'.toList) = false := (Lib.bytes_beq_false_iff nm nm').2 e
    simp only [e, decide_false, Bool.false_and]
    go_enter Try.func14, Try.ntmps14
    go_wp2_with fail
    go_quiet (first | (go_at_call 16; exact HF.out _))
    go_wp2_with (go_at_call 20; refine (check20 _ _ _ _ _ _ (by decide) (by decide)).mono ?_; rintro e w1 ⟨rfl, rfl⟩)
    go_ret
    exact ⟨rfl, _, rfl⟩

theorem vls_call (u u' T v T1 v1 : Nat) (b : Bool) (w : World) (h : RowAt w u (callRow T v 0) 65) (h' : RowAt w u' (callRow T1 v1 0) 65)
    (H : ∀ m, Calls Try.prog 14 #[.iface T (.pointer (some ⟨v, 0, none⟩)), .iface T1 (.pointer (some ⟨v1, 0, none⟩))] (w.drewN m) (Vls (w.drewN m) b)) :
    Calls Try.prog 14 #[.iface 44 (.pointer (some ⟨u, 0, none⟩)), .iface 44 (.pointer (some ⟨u', 0, none⟩))] w (Vls w b) := by
  have c0 := fun m => (h.drewN m).cellv (j := 0) (v := .iface T (.pointer (some ⟨v, 0, none⟩))) rfl
  have c2 := fun m => (h.drewN m).cellv (j := 2) (v := .slice none 0 0) rfl
  have d0 := fun m => (h'.drewN m).cellv (j := 0) (v := .iface T1 (.pointer (some ⟨v1, 0, none⟩))) rfl
  have d2 := fun m => (h'.drewN m).cellv (j := 2) (v := .slice none 0 0) rfl
  have HF := Lib.hid (fun m => quietly (w := w) (n := m) (flag18 u u' T T1 v v1 (w.drewN m) (h.drewN m) (h'.drewN m)))
  have HV := Lib.hid (fun m => quietly (w := w) (n := m) (v := .bool b) (H m))
  clear h h' H
  cases b
  · go_enter Try.func14, Try.ntmps14
    go_wp2_with fail
    go_quiet (first | (go_at_call 18; exact HF.out _) | (go_at_call 14; exact HV.out _))
    go_wp2_with (go_at_call 20; refine (check20 _ _ _ _ _ _ (by decide) (by decide)).mono ?_; rintro e w1 ⟨rfl, rfl⟩)
    go_ret
    exact ⟨rfl, _, rfl⟩
  · go_enter Try.func14, Try.ntmps14
    go_wp2_with fail
    go_quiet (first | (go_at_call 18; exact HF.out _) | (go_at_call 14; exact HV.out _))
    go_wp2_with fail
    go_rounds 1
    go_wp2_with fail
    go_ret
    exact ⟨rfl, _, rfl⟩

theorem vls_idx (u u' T v T1 v1 s s1 : Nat) (nm nm' : ByteArray) (b : Bool) (w : World) (hn : nm.size ≤ 1048576) (hn' : nm'.size ≤ 1048576) (h : RowAt w u (idxRow T v s 0) 61) (h' : RowAt w u' (idxRow T1 v1 s1 0) 61) (hs : Lit8 w s nm) (hs' : Lit8 w s1 nm')
    (hT : T = 47 ∨ T = 42 ∨ T = 43 ∨ T = 44)
    (H : ∀ m, Calls Try.prog 14 #[.iface T (.pointer (some ⟨v, 0, none⟩)), .iface T1 (.pointer (some ⟨v1, 0, none⟩))] (w.drewN m) (Vls (w.drewN m) b)) :
    Calls Try.prog 14 #[.iface 43 (.pointer (some ⟨u, 0, none⟩)), .iface 43 (.pointer (some ⟨u', 0, none⟩))] w (Vls w (decide (nm = nm') && b)) := by
  have c0 := fun m => (h.drewN m).cellv (j := 0) (v := .iface T (.pointer (some ⟨v, 0, none⟩))) rfl
  have c2 := fun m => (h.drewN m).cellv (j := 2) (v := .iface 55 (.pointer (some ⟨s, 0, none⟩))) rfl
  have d0 := fun m => (h'.drewN m).cellv (j := 0) (v := .iface T1 (.pointer (some ⟨v1, 0, none⟩))) rfl
  have d2 := fun m => (h'.drewN m).cellv (j := 2) (v := .iface 55 (.pointer (some ⟨s1, 0, none⟩))) rfl
  have HF := Lib.hid (fun m => quietly (w := w) (n := m) (flag17 u u' T T1 v v1 s s1 (w.drewN m) (h.drewN m) (h'.drewN m)))
  have HV := Lib.hid (fun m => quietly (w := w) (n := m) (v := .bool b) (H m))
  obtain ⟨q, hq⟩ : ∃ q, decide (nm = nm') = q := ⟨_, rfl⟩
  have HS := Lib.hid (fun m => quietly (w := w) (n := m) (v := .bool q) (hq ▸ vls_str s s1 nm nm' (w.drewN m) hn hn' hs hs'))
  rw [hq]
  clear h h' H hs hs' hq
  cases b
  · rw [Bool.and_false]
    go_enter Try.func14, Try.ntmps14
    go_wp2_with fail
    go_quiet (first | (go_at_call 17; exact HF.out _) | (go_at_call 14; with_reducible first | exact HS.out _ | exact HV.out _))
    go_wp2_with (go_at_call 20; refine (check20 _ _ _ _ _ _ (by decide) (by decide)).mono ?_; rintro e w1 ⟨rfl, rfl⟩)
    go_ret
    exact ⟨rfl, _, rfl⟩
  · rw [Bool.and_true]
    cases q
    · go_enter Try.func14, Try.ntmps14
      go_wp2_with fail
      go_quiet (first | (go_at_call 17; exact HF.out _) | (go_at_call 14; with_reducible first | exact HS.out _ | exact HV.out _))
      go_wp2_with (go_at_call 20; refine (check20 _ _ _ _ _ _ (by decide) (by decide)).mono ?_; rintro e w1 ⟨rfl, rfl⟩)
      go_ret
      exact ⟨rfl, _, rfl⟩
    · go_enter Try.func14, Try.ntmps14
      go_wp2_with fail
      go_quiet (first | (go_at_call 17; exact HF.out _) | (go_at_call 14; with_reducible first | exact HS.out _ | exact HV.out _))
      go_wp2_with fail
      go_ret
      exact ⟨rfl, _, rfl⟩

end Go.Proofs.Ytjngpnijogfmdac.fnTryToInsertOptionalChainMarksExactlyTheTail
