/-
  A slice of floats that came in.
-/
import Derived.Test.YtmbbabikbmkjpabKit
import Derived.Deep.Grids
namespace Go.Proofs.Ytmbbabikbmkjpab
open Go.ChangeShapes Go.WideShapes Go.ChangeAt Go.RowKit
set_option maxRecDepth 100000

def IsFloats (w : World) (a : Option Addr) (len cap : Nat) : Prop := (a = none ∧ len = 0 ∧ cap = 0) ∨ ∃ x, a = some x ∧ len ≤ cap ∧ cap ≤ maxLen ∧ ∀ i, i < cap → ∃ F, w.cell? (x.add i) = some (.float .f64 F)

section
variable {H : Type} {enc : TypeId × Value → H} {P : Program} {w : World} {base : Nat} {held : Bool}
theorem float_of_trod {t : TypeId} {spare : Nat → Bool} {fuel : Nat} {cs : List Value} {x : DataW H × List MemPlace} (ht : P.underlying t = some (.float .f64)) (h : DataW.trod enc P w base spare held fuel t cs = some x) : ∃ b, cs = [.float .f64 b] := by
  cases fuel with
  | zero => simp [DataW.trod] at h
  | succ n =>
    unfold DataW.trod at h
    rw [ht] at h
    split at h <;> simp_all

theorem open_floats {t e : TypeId} {fuel : Nat} {a : Option Addr} {len cap : Nat} {x : DataW H × List MemPlace} (ht : P.underlying t = some (.slice e)) (he : P.underlying e = some (.float .f64)) (hc : P.cellsOf e = 1)
    (h : DataW.trod enc P w base (fun _ => true) held fuel t [.slice a len cap] = some x) : IsFloats w a len cap := by
  rcases Deep.open_slice1 ht hc h with ⟨h0, _⟩ | ⟨a', len', cap', m, n, V, D, Pl, e0, hb, hl, hm, hmm, rfl, hx⟩
  · simp at h0
    obtain ⟨rfl, rfl, rfl⟩ := h0
    exact .inl ⟨rfl, rfl, rfl⟩
  · simp only [if_true] at hmm
    simp at e0
    obtain ⟨rfl, rfl, rfl⟩ := e0
    subst hmm
    exact .inr ⟨a', rfl, hl, hm, fun i hi => by
      obtain ⟨b, hb'⟩ := float_of_trod he (hx i hi).2
      simp at hb'
      exact ⟨b, by rw [(hx i hi).1, hb']⟩⟩
end

end Go.Proofs.Ytmbbabikbmkjpab
