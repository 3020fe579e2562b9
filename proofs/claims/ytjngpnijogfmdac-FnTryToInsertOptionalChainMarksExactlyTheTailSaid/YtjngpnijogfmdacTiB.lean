import Derived.Test.YtjngpnijogfmdacKit
import Derived.Test.YtjngpnijogfmdacTiA
namespace Go.Proofs.Ytjngpnijogfmdac.fnTryToInsertOptionalChainMarksExactlyTheTail
open Go.ChangeShapes Go.WideShapes Go.ChangeAt Go.RowKit
set_option linter.unusedVariables false
set_option maxRecDepth 100000
set_option maxHeartbeats 2000000

theorem Chain_drewN {w : World} {r : Int} (n : Nat) : ∀ {s : List St} {T u : Nat}, Chain w r s T u → Chain (w.drewN n) r s T u
  | [], _, _, h => h
  | .dot _ :: _, _, _, ⟨h, T', u', hr, hc⟩ => ⟨h, T', u', hr, Chain_drewN n hc⟩
  | .idx _ :: _, _, _, ⟨h, T', u', b, hr, hs, hc⟩ => ⟨h, T', u', b, hr, hs, Chain_drewN n hc⟩
  | .call :: _, _, _, ⟨h, T', u', hr, hc⟩ => ⟨h, T', u', hr, Chain_drewN n hc⟩

/-- What the comparison of two values comes to. -/
def Vls (w : World) (b : Bool) (e : Ending) (w' : World) : Prop := e = .returned (.bool b) ∧ ∃ m, w' = w.drewN m

/-- Two values of other kinds. -/
theorem vls_other (T T' : Nat) (u u' : Nat) (w : World) (hT : T = 47 ∨ T = 42 ∨ T = 43 ∨ T = 44) (hT' : T' = 47 ∨ T' = 42 ∨ T' = 43 ∨ T' = 44) (hne : T ≠ T') : Calls Try.prog 14 #[.iface T (.pointer (some ⟨u, 0, none⟩)), .iface T' (.pointer (some ⟨u', 0, none⟩))] w (Vls w false) := by
  rcases hT with rfl | rfl | rfl | rfl <;> rcases hT' with rfl | rfl | rfl | rfl
  all_goals first
    | exact absurd rfl hne
    | as_aux_lemma =>
      clear hne
      go_enter Try.func14, Try.ntmps14
      go_wp2_with fail
      go_quiet (fail)
      go_wp2_with (go_at_call 20; refine (check20 _ _ _ _ _ _ (by decide) (by decide)).mono ?_; rintro e w1 ⟨rfl, rfl⟩)
      go_ret
      exact ⟨rfl, _, rfl⟩

theorem vls_id (u u' : Nat) (r r' : Int) (w : World) (h : RowAt w u (idRow r) 51) (h' : RowAt w u' (idRow r') 51) : Calls Try.prog 14 #[.iface 47 (.pointer (some ⟨u, 0, none⟩)), .iface 47 (.pointer (some ⟨u', 0, none⟩))] w (Vls w (decide (r = r'))) := by
  have c1 := fun m => (h.drewN m).cellv (j := 0) (v := .int .u32 0) rfl
  have c2 := fun m => (h.drewN m).cellv (j := 1) (v := .int .u32 r) rfl
  have d1 := fun m => (h'.drewN m).cellv (j := 0) (v := .int .u32 0) rfl
  have d2 := fun m => (h'.drewN m).cellv (j := 1) (v := .int .u32 r') rfl
  clear h h'
  by_cases e : r = r'
  · subst e
    simp only [decide_true]
    go_enter Try.func14, Try.ntmps14
    go_wp2_with fail
    go_quiet (fail)
    go_wp2_with fail
    go_ret
    exact ⟨rfl, _, rfl⟩
  · have hb : (r == r') = false := by simpa using e
    simp only [e, decide_false]
    go_enter Try.func14, Try.ntmps14
    go_wp2_with fail
    go_quiet (fail)
    go_wp2_with (go_at_call 20; refine (check20 _ _ _ _ _ _ (by decide) (by decide)).mono ?_; rintro e w1 ⟨rfl, rfl⟩)
    go_ret
    exact ⟨rfl, _, rfl⟩

end Go.Proofs.Ytjngpnijogfmdac.fnTryToInsertOptionalChainMarksExactlyTheTail
