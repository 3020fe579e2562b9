/-
  A block of cells known cell by cell through a function; no program named.
-/
import Derived.Test.YtkncfhhiookgdabGreatFmtRow
namespace Go.Proofs.YtkncfhhiookgdabGreatFmt
open Go.RowKit

/-- Row R holds N cells, cell i being f i; none of them frozen. -/
def Cells (w : World) (R : Nat) (E : TypeId) (N : Nat) (f : Nat → Value) : Prop := ∃ cs, RowAt w R cs E ∧ cs.size = N ∧ ∀ i, i < N → cs[i]? = some (f i)

/-- f but for v at i. -/
def upd (f : Nat → Value) (i : Nat) (v : Value) : Nat → Value := fun j => if j = i then v else f j
theorem upd_same (f : Nat → Value) (i : Nat) (v : Value) : upd f i v i = v := if_pos rfl
theorem upd_other (f : Nat → Value) {i j : Nat} (v : Value) (h : j ≠ i) : upd f i v j = f j := if_neg h

section
variable {w w' : World} {R N : Nat} {E : TypeId} {f g : Nat → Value}
theorem Cells.lt (h : Cells w R E N f) : R < w.heap.size := by
  obtain ⟨cs, hr, _⟩ := h
  exact hr.lt
theorem Cells.cell (h : Cells w R E N f) {i : Nat} (hi : i < N) : w.cell? ⟨R, i, none⟩ = some (f i) := by
  obtain ⟨cs, hr, hs, hx⟩ := h
  exact hr.cellv (hx i hi)
theorem Cells.cellv (h : Cells w R E N f) {i : Nat} {v : Value} (hi : i < N) (hv : f i = v) : w.cell? ⟨R, i, none⟩ = some v := by
  rw [← hv]
  exact h.cell hi
theorem Cells.frozen (h : Cells w R E N f) (i : Nat) : w.frozen? ⟨R, i, none⟩ = false := by
  obtain ⟨cs, hr, _⟩ := h
  exact hr.frozen i
theorem Cells.set (h : Cells w R E N f) (i : Nat) (v : Value) : Cells (w.setCell ⟨R, i, none⟩ v) R E N (upd f i v) := by
  obtain ⟨cs, hr, hs, hx⟩ := h
  refine ⟨_, hr.set i v, by simp [hs], fun j hj => ?_⟩
  by_cases e : j = i
  · subst e
    rw [Array.getElem?_setIfInBounds, if_pos rfl, if_pos (by omega), upd_same]
  · rw [Array.getElem?_setIfInBounds, if_neg (fun e' => e e'.symm), upd_other _ _ e]
    exact hx j hj
theorem Cells.set_other (h : Cells w R E N f) {c : Nat} (hc : R ≠ c) (j : Nat) (u : Value) : Cells (w.setCell ⟨c, j, none⟩ u) R E N f := by
  obtain ⟨cs, hr, hs, hx⟩ := h
  exact ⟨cs, hr.set_other hc j u, hs, hx⟩
theorem Cells.kept (h : Cells w R E N f) (hk : w'.heap[R]? = w.heap[R]?) : Cells w' R E N f := by
  obtain ⟨cs, hr, hs, hx⟩ := h
  exact ⟨cs, hk.trans hr, hs, hx⟩
theorem Cells.below {B : Nat} (h : Cells w R E N f) (hb : Below B w w') (hlt : R < B) : Cells w' R E N f := h.kept (hb.block R hlt)
theorem Cells.alloc (h : Cells w R E N f) (o : Obj) : Cells (w.alloc o) R E N f := h.kept (Below.heap_alloc _ _ _ h.lt)
theorem Cells.drewN (h : Cells w R E N f) (n : Nat) : Cells (w.drewN n) R E N f := h
theorem Cells.congr (h : Cells w R E N f) (e : ∀ i, i < N → f i = g i) : Cells w R E N g := by
  obtain ⟨cs, hr, hs, hx⟩ := h
  exact ⟨cs, hr, hs, fun i hi => (hx i hi).trans (by rw [e i hi])⟩
theorem Cells.of_row {cs : Array Value} (h : RowAt w R cs E) (hs : cs.size = N) (e : ∀ i, i < N → cs[i]? = some (f i)) : Cells w R E N f := ⟨cs, h, hs, e⟩
theorem Cells.made {B n size : Nat} {z : Array Value} (h : w.ownsRow B E size (.slice (some ⟨R, 0, none⟩) n n) n (madeCells z (n * size)).toList) : Cells w R E (n * size) (fun i => z[i % z.size]!) := by
  obtain ⟨cs, hr, hs, _, _, ht⟩ := RowAt.of_owns h
  refine ⟨cs, hr, hs, fun i hi => ?_⟩
  have : (cs.toList.take (n * size))[i]? = (madeCells z (n * size)).toList[i]? := by rw [ht]
  rw [List.getElem?_take, if_pos hi] at this
  have e : cs[i]? = (madeCells z (n * size))[i]? := by simpa using this
  rw [e]
  simp [madeCells, hi]
end

end Go.Proofs.YtkncfhhiookgdabGreatFmt
