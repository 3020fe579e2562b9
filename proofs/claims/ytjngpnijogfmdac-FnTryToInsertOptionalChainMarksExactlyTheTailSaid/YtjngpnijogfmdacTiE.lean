import Derived.Test.YtjngpnijogfmdacKit
import Derived.Test.YtjngpnijogfmdacTiD
namespace Go.Proofs.Ytjngpnijogfmdac.fnTryToInsertOptionalChainMarksExactlyTheTail
open Go.ChangeShapes Go.WideShapes Go.ChangeAt Go.RowKit
set_option linter.unusedVariables false
set_option maxRecDepth 100000
set_option maxHeartbeats 2000000

/-- Every name is short. -/
def Small : List St → Prop
  | [] => True
  | .dot nm :: s => nm.size ≤ 1048576 ∧ Small s
  | .idx nm :: s => nm.size ≤ 1048576 ∧ Small s
  | .call :: s => Small s
theorem Chain_kind {w : World} {r : Int} : ∀ {s : List St} {T u : Nat}, Chain w r s T u → T = 47 ∨ T = 42 ∨ T = 43 ∨ T = 44
  | [], _, _, h => .inl h.1
  | .dot _ :: _, _, _, h => .inr (.inl h.1)
  | .idx _ :: _, _, _, h => .inr (.inr (.inl h.1))
  | .call :: _, _, _, h => .inr (.inr (.inr h.1))

theorem vls (r r' : Int) : ∀ (sA sB : List St) (T u T' u' : Nat) (w : World), Small sA → Small sB → Chain w r sA T u → Chain w r' sB T' u' →
    Calls Try.prog 14 #[.iface T (.pointer (some ⟨u, 0, none⟩)), .iface T' (.pointer (some ⟨u', 0, none⟩))] w (Vls w (decide (r = r' ∧ sA = sB)))
  | [], sB, T, u, T', u', w, _, _, ⟨hT, hr⟩, hB => by
    subst hT
    match sB, hB with
    | [], ⟨hT', hr'⟩ =>
      subst hT'
      have := vls_id u u' r r' w hr hr'
      simpa using this
    | .dot _ :: _, ⟨hT', _⟩ =>
      subst hT'
      have := vls_other 47 42 u u' w (by decide) (by decide) (by decide)
      simpa using this
    | .idx _ :: _, ⟨hT', _⟩ =>
      subst hT'
      have := vls_other 47 43 u u' w (by decide) (by decide) (by decide)
      simpa using this
    | .call :: _, ⟨hT', _⟩ =>
      subst hT'
      have := vls_other 47 44 u u' w (by decide) (by decide) (by decide)
      simpa using this
  | .dot nm :: sA, sB, T, u, T', u', w, hA, hB', ⟨hT, v, x, hr, hc⟩, hB => by
    subst hT
    match sB, hB', hB with
    | [], _, ⟨hT', _⟩ =>
      subst hT'
      have := vls_other 42 47 u u' w (by decide) (by decide) (by decide)
      simpa using this
    | .dot nm' :: sB, hB', ⟨hT', v', x', hr', hc'⟩ =>
      subst hT'
      have := vls_dot u u' v x v' x' nm nm' (decide (r = r' ∧ sA = sB)) w hr hr' (fun m => vls r r' sA sB v x v' x' (w.drewN m) hA.2 hB'.2 (Chain_drewN m hc) (Chain_drewN m hc'))
      rw [show (decide (nm = nm') && decide (r = r' ∧ sA = sB)) = decide (r = r' ∧ St.dot nm :: sA = St.dot nm' :: sB) from by
        rw [Bool.eq_iff_iff]; simp; constructor <;> (rintro ⟨h1, h2, h3⟩; exact ⟨h2, h1, h3⟩)] at this
      exact this
    | .idx _ :: _, _, ⟨hT', _⟩ =>
      subst hT'
      have := vls_other 42 43 u u' w (by decide) (by decide) (by decide)
      simpa using this
    | .call :: _, _, ⟨hT', _⟩ =>
      subst hT'
      have := vls_other 42 44 u u' w (by decide) (by decide) (by decide)
      simpa using this
  | .idx nm :: sA, sB, T, u, T', u', w, hA, hB', ⟨hT, v, x, s, hr, hs, hc⟩, hB => by
    subst hT
    match sB, hB', hB with
    | [], _, ⟨hT', _⟩ =>
      subst hT'
      have := vls_other 43 47 u u' w (by decide) (by decide) (by decide)
      simpa using this
    | .dot _ :: _, _, ⟨hT', _⟩ =>
      subst hT'
      have := vls_other 43 42 u u' w (by decide) (by decide) (by decide)
      simpa using this
    | .idx nm' :: sB, hB', ⟨hT', v', x', s', hr', hs', hc'⟩ =>
      subst hT'
      have := vls_idx u u' v x v' x' s s' nm nm' (decide (r = r' ∧ sA = sB)) w hA.1 hB'.1 hr hr' hs hs' (Chain_kind hc) (fun m => vls r r' sA sB v x v' x' (w.drewN m) hA.2 hB'.2 (Chain_drewN m hc) (Chain_drewN m hc'))
      rw [show (decide (nm = nm') && decide (r = r' ∧ sA = sB)) = decide (r = r' ∧ St.idx nm :: sA = St.idx nm' :: sB) from by
        rw [Bool.eq_iff_iff]; simp; constructor <;> (rintro ⟨h1, h2, h3⟩; exact ⟨h2, h1, h3⟩)] at this
      exact this
    | .call :: _, _, ⟨hT', _⟩ =>
      subst hT'
      have := vls_other 43 44 u u' w (by decide) (by decide) (by decide)
      simpa using this
  | .call :: sA, sB, T, u, T', u', w, hA, hB', ⟨hT, v, x, hr, hc⟩, hB => by
    subst hT
    match sB, hB', hB with
    | [], _, ⟨hT', _⟩ =>
      subst hT'
      have := vls_other 44 47 u u' w (by decide) (by decide) (by decide)
      simpa using this
    | .dot _ :: _, _, ⟨hT', _⟩ =>
      subst hT'
      have := vls_other 44 42 u u' w (by decide) (by decide) (by decide)
      simpa using this
    | .idx _ :: _, _, ⟨hT', _⟩ =>
      subst hT'
      have := vls_other 44 43 u u' w (by decide) (by decide) (by decide)
      simpa using this
    | .call :: sB, hB', ⟨hT', v', x', hr', hc'⟩ =>
      subst hT'
      have := vls_call u u' v x v' x' (decide (r = r' ∧ sA = sB)) w hr hr' (fun m => vls r r' sA sB v x v' x' (w.drewN m) hA hB' (Chain_drewN m hc) (Chain_drewN m hc'))
      rw [show decide (r = r' ∧ sA = sB) = decide (r = r' ∧ St.call :: sA = St.call :: sB) from by simp] at this
      exact this

end Go.Proofs.Ytjngpnijogfmdac.fnTryToInsertOptionalChainMarksExactlyTheTail
