/-
  A block of cells known whole: its cells, what a store makes of it, what stays; no program named.
-/
import Derived.Test.YtkncfhhiookgdabGreatFmtKit
namespace Go.Proofs.YtkncfhhiookgdabGreatFmt
open Go.RowKit

theorem cell_lt {w : World} {a : Addr} {v : Value} (h : w.cell? a = some v) : a.block < w.heap.size := by
  unfold World.cell? at h
  by_cases hlt : a.block < w.heap.size
  · exact hlt
  · rw [Array.getElem?_eq_none (by omega)] at h
    simp at h

theorem cell_spot {w : World} {a : Addr} {v : Value} (h : w.cell? a = some v) : a.spot = none := by
  unfold World.cell? at h
  split at h
  · by_cases hs : a.spot.isSome
    · simp [hs] at h
    · simpa using hs
  · simp at h

/-- Block b is a row of cells cs, none of them frozen. -/
def RowAt (w : World) (b : Nat) (cs : Array Value) (t : TypeId) : Prop := w.heap[b]? = some (.cells cs t (0, 0))

theorem RowAt.lt {w : World} {b : Nat} {cs : Array Value} {t : TypeId} (h : RowAt w b cs t) : b < w.heap.size := lt_of_block h
theorem RowAt.cell {w : World} {b : Nat} {cs : Array Value} {t : TypeId} (h : RowAt w b cs t) (j : Nat) : w.cell? ⟨b, j, none⟩ = cs[j]? := cell_of_row w b j cs t (0, 0) h
theorem RowAt.cellv {w : World} {b : Nat} {cs : Array Value} {t : TypeId} {j : Nat} {v : Value} (h : RowAt w b cs t) (hv : cs[j]? = some v) : w.cell? ⟨b, j, none⟩ = some v := (h.cell j).trans hv
theorem RowAt.frozen {w : World} {b : Nat} {cs : Array Value} {t : TypeId} (h : RowAt w b cs t) (j : Nat) : w.frozen? ⟨b, j, none⟩ = false := by
  unfold RowAt at h
  simp [World.frozen?, h]
theorem RowAt.set {w : World} {b : Nat} {cs : Array Value} {t : TypeId} (h : RowAt w b cs t) (j : Nat) (u : Value) : RowAt (w.setCell ⟨b, j, none⟩ u) b (cs.setIfInBounds j u) t := by
  unfold RowAt at *
  show (w.heap.modify b _)[b]? = _
  rw [Array.getElem?_modify, if_pos rfl, h]
  rfl
theorem RowAt.set_other {w : World} {b c : Nat} {cs : Array Value} {t : TypeId} (h : RowAt w b cs t) (hc : b ≠ c) (j : Nat) (u : Value) : RowAt (w.setCell ⟨c, j, none⟩ u) b cs t := by
  unfold RowAt at *
  rw [Below.heap_setCell _ _ _ _ hc, h]
theorem RowAt.alloc {w : World} {b : Nat} {cs : Array Value} {t : TypeId} (h : RowAt w b cs t) (o : Obj) : RowAt (w.alloc o) b cs t := by
  have := h.lt
  unfold RowAt at *
  rw [Below.heap_alloc _ _ _ this, h]
theorem RowAt.new (w : World) (cs : Array Value) (t : TypeId) : RowAt (w.alloc (.cells cs t)) w.heap.size cs t := heap_alloc_new w _
theorem RowAt.below {w w' : World} {b B : Nat} {cs : Array Value} {t : TypeId} (h : RowAt w b cs t) (hb : Below B w w') (hlt : b < B) : RowAt w' b cs t := (hb.block b hlt).trans h
theorem RowAt.drewN {w : World} {b : Nat} {cs : Array Value} {t : TypeId} (h : RowAt w b cs t) (n : Nat) : RowAt (w.drewN n) b cs t := h
theorem RowAt.of_owns {w : World} {base e size g n cap : Nat} {xs : List Value} (h : w.ownsRow base e size (.slice (some ⟨g, 0, none⟩) n cap) n xs) : ∃ cs, RowAt w g cs e ∧ cs.size = cap * size ∧ n ≤ cap ∧ cap ≤ maxLen ∧ cs.toList.take (n * size) = xs := by
  obtain ⟨_, h2⟩ := h
  rcases h2 with ⟨h3, _⟩ | ⟨g', cap', cur, hv, _, hh, h4, h5, h6, h7⟩
  · cases h3
  · cases hv
    exact ⟨cur, hh, h6, h4, h5, h7⟩

/-- A slice value that came in: what its elements' cells are in a later world. -/
theorem later {w w' : World} {a : Addr} {v : Value} (h : w.cell? a = some v) (hb : Below w.heap.size w w') : w'.cell? a = some v := (hb.cell (cell_lt h)).trans h

/-- The first n of the N one-cell elements of row R are as f says. -/
def RowUpTo (w : World) (R : Nat) (E : TypeId) (N n : Nat) (f : Nat → Value) : Prop := ∃ cs, RowAt w R cs E ∧ cs.size = N ∧ ∀ i, i < n → cs[i]? = some (f i)

theorem RowUpTo.start {w : World} {R N : Nat} {E : TypeId} {cs : Array Value} (h : RowAt w R cs E) (hs : cs.size = N) (f : Nat → Value) : RowUpTo w R E N 0 f := ⟨cs, h, hs, fun i hi => by omega⟩
theorem RowUpTo.step {w : World} {R N n : Nat} {E : TypeId} {f : Nat → Value} (h : RowUpTo w R E N n f) (hn : n < N) : RowUpTo (w.setCell ⟨R, n, none⟩ (f n)) R E N (n + 1) f := by
  obtain ⟨cs, hr, hs, hx⟩ := h
  refine ⟨_, hr.set n (f n), by simp [hs], fun i hi => ?_⟩
  by_cases e : i = n
  · subst e
    rw [Array.getElem?_setIfInBounds, if_pos rfl, if_pos (by omega)]
  · rw [Array.getElem?_setIfInBounds, if_neg (by omega)]
    exact hx i (by omega)
theorem RowUpTo.lt {w : World} {R N n : Nat} {E : TypeId} {f : Nat → Value} (h : RowUpTo w R E N n f) : R < w.heap.size := by
  obtain ⟨cs, hr, _⟩ := h
  exact hr.lt
theorem RowUpTo.kept {w w' : World} {R N n : Nat} {E : TypeId} {f : Nat → Value} (h : RowUpTo w R E N n f) (hk : w'.heap[R]? = w.heap[R]?) : RowUpTo w' R E N n f := by
  obtain ⟨cs, hr, hs, hx⟩ := h
  exact ⟨cs, hk.trans hr, hs, hx⟩
theorem RowUpTo.below {w w' : World} {R N n B : Nat} {E : TypeId} {f : Nat → Value} (h : RowUpTo w R E N n f) (hb : Below B w w') (hlt : R < B) : RowUpTo w' R E N n f := h.kept (hb.block R hlt)
theorem RowUpTo.cell {w : World} {R N n : Nat} {E : TypeId} {f : Nat → Value} (h : RowUpTo w R E N n f) {i : Nat} (hi : i < n) : w.cell? ⟨R, i, none⟩ = some (f i) := by
  obtain ⟨cs, hr, hs, hx⟩ := h
  exact hr.cellv (hx i hi)
theorem RowUpTo.old {w : World} {R N n : Nat} {E : TypeId} {f : Nat → Value} (h : RowUpTo w R E N n f) {i : Nat} (hi : i < N) : ∃ v, w.cell? ⟨R, i, none⟩ = some v := by
  obtain ⟨cs, hr, hs, hx⟩ := h
  exact ⟨_, hr.cellv (Array.getElem?_eq_getElem (by omega))⟩
theorem RowUpTo.frozen {w : World} {R N n : Nat} {E : TypeId} {f : Nat → Value} (h : RowUpTo w R E N n f) (i : Nat) : w.frozen? ⟨R, i, none⟩ = false := by
  obtain ⟨cs, hr, hs, hx⟩ := h
  exact hr.frozen i
theorem RowUpTo.congr {w : World} {R N n : Nat} {E : TypeId} {f g : Nat → Value} (h : RowUpTo w R E N n f) (e : ∀ i, i < n → f i = g i) : RowUpTo w R E N n g := by
  obtain ⟨cs, hr, hs, hx⟩ := h
  exact ⟨cs, hr, hs, fun i hi => (hx i hi).trans (by rw [e i hi])⟩

end Go.Proofs.YtkncfhhiookgdabGreatFmt
