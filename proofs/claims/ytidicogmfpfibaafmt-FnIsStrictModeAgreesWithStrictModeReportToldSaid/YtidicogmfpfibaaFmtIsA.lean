import Derived.Test.YtidicogmfpfibaaFmtKit
import Derived.Deep.MidRow
import Derived.Test.YtidicogmfpfibaaFmtLaE
namespace Go.Proofs.YtidicogmfpfibaaFmt
open Go.ChangeShapes Go.WideShapes Go.ChangeAt Go.RowKit
set_option linter.unusedVariables false
set_option maxRecDepth 100000
set_option maxHeartbeats 2000000

open Go.MuLone
/-- What a row of cells is behind a list stored from o on. -/
def putL (cs : Array Value) : Nat → List Value → Array Value
  | _, [] => cs
  | o, v :: r => putL (cs.setIfInBounds o v) (o + 1) r
theorem RowAt.setCells {p : Nat} {t : TypeId} : ∀ (vs : List Value) {w : World} {cs : Array Value} (o : Nat), RowAt w p cs t → RowAt (w.setCells p o vs) p (putL cs o vs) t
  | [], _, _, _, h => h
  | v :: r, _, _, o, h => RowAt.setCells r (o + 1) (h.set o v)
theorem RowAt.setCells_other {p c : Nat} {t : TypeId} {cs : Array Value} (hc : p ≠ c) : ∀ (vs : List Value) {w : World} (o : Nat), RowAt w p cs t → RowAt (w.setCells c o vs) p cs t
  | [], _, _, h => h
  | v :: r, _, o, h => RowAt.setCells_other hc r (o + 1) (h.set_other hc o v)
theorem below_setCells {B p : Nat} (hp : B ≤ p) : ∀ (vs : List Value) {w w' : World} (o : Nat), Below B w w' → Below B w (w'.setCells p o vs)
  | [], _, _, _, h => h
  | v :: r, _, _, o, h => below_setCells hp r (o + 1) (h.setCell hp v)
theorem setCells_size {p : Nat} : ∀ (vs : List Value) (w : World) (o : Nat), (w.setCells p o vs).heap.size = w.heap.size
  | [], _, _ => rfl
  | v :: r, w, o => (setCells_size r _ (o + 1)).trans (by simp)
/-- Cells of a row, each by its place. -/
def At (cs : Array Value) (L : List (Nat × Value)) : Prop := ∀ q ∈ L, cs[q.1]? = some q.2
theorem At.get {cs : Array Value} {L : List (Nat × Value)} (h : At cs L) (j : Nat) {i : Nat} {v : Value} (hj : L[j]? = some (i, v)) : cs[i]? = some v := h (i, v) (List.mem_of_getElem? hj)
theorem At.set {cs : Array Value} {L : List (Nat × Value)} (h : At cs L) (i : Nat) (v : Value) (hi : (L.all fun q => q.1 != i) = true) : At (cs.setIfInBounds i v) L := fun q hq => by
  have hne : q.1 ≠ i := by simpa using List.all_eq_true.1 hi q hq
  rw [Array.getElem?_setIfInBounds_ne (Ne.symm hne)]
  exact h q hq
theorem set_same {cs : Array Value} {i : Nat} {v : Value} (h : cs[i]? = some v) : cs.setIfInBounds i v = cs := by
  apply Array.ext_getElem?
  intro j
  by_cases hj : i = j
  · subst hj
    obtain ⟨hi, _⟩ := Array.getElem?_eq_some_iff.1 h
    rw [Array.getElem?_setIfInBounds_self_of_lt hi, h]
  · rw [Array.getElem?_setIfInBounds_ne hj]
/-- All rows but one stay. -/
def Fp (p : Nat) (w w' : World) : Prop := ∀ g cs t, g ≠ p → RowAt w g cs t → RowAt w' g cs t
theorem Fp.refl (p : Nat) (w : World) : Fp p w w := fun _ _ _ _ h => h
theorem Fp.trans {p : Nat} {a b c : World} (h : Fp p a b) (k : Fp p b c) : Fp p a c := fun g cs t hg r => k g cs t hg (h g cs t hg r)
theorem Fp.below {p : Nat} {w w' : World} (h : Below w.heap.size w w') : Fp p w w' := fun _ _ _ _ r => r.below h r.lt
theorem Fp.set (p : Nat) (w : World) (o : Nat) (v : Value) : Fp p w (w.setCell ⟨p, o, none⟩ v) := fun _ _ _ hg r => r.set_other hg o v

end Go.Proofs.YtidicogmfpfibaaFmt
