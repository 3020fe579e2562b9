/-
  A row of structs, cell by cell through a function of the element and of the field; no program named.
-/
import Derived.Test.YtkncfhhiookgdabGreatFmtCells
namespace Go.Proofs.YtkncfhhiookgdabGreatFmt
open Go.RowKit

theorem rec_inj {s i j k l : Nat} (hj : j < s) (hl : l < s) (h : i * s + j = k * s + l) : i = k ∧ j = l := by
  have h1 : i = k := by
    have e1 : (i * s + j) / s = i := by rw [Nat.mul_comm, Nat.mul_add_div (by omega), Nat.div_eq_of_lt hj, Nat.add_zero]
    have e2 : (k * s + l) / s = k := by rw [Nat.mul_comm, Nat.mul_add_div (by omega), Nat.div_eq_of_lt hl, Nat.add_zero]
    rw [← e1, ← e2, h]
  subst h1
  exact ⟨rfl, by omega⟩
theorem rec_lt {s i j N : Nat} (hi : i < N) (hj : j < s) : i * s + j < N * s := by
  have h := Nat.mul_le_mul_right s (show i + 1 ≤ N by omega)
  rw [Nat.add_mul, Nat.one_mul] at h
  omega

/-- Row R holds N structs of s cells; cell j of struct i is g i j; none of them frozen. -/
def Rec (w : World) (R : Nat) (E : TypeId) (s N : Nat) (g : Nat → Nat → Value) : Prop := ∃ cs, RowAt w R cs E ∧ cs.size = N * s ∧ ∀ i, i < N → ∀ j, j < s → cs[i * s + j]? = some (g i j)

/-- g but for v at field j of struct i. -/
def upd2 (g : Nat → Nat → Value) (i j : Nat) (v : Value) : Nat → Nat → Value := fun a b => if a = i ∧ b = j then v else g a b
/-- g but for the whole of struct i. -/
def updS2 (g : Nat → Nat → Value) (i : Nat) (x : Nat → Value) : Nat → Nat → Value := fun a b => if a = i then x b else g a b

section
variable {w w' : World} {R N s : Nat} {E : TypeId} {g h : Nat → Nat → Value}
theorem Rec.lt (H : Rec w R E s N g) : R < w.heap.size := by
  obtain ⟨cs, hr, _⟩ := H
  exact hr.lt
theorem Rec.cell (H : Rec w R E s N g) {i j : Nat} (hi : i < N) (hj : j < s) : w.cell? ⟨R, i * s + j, none⟩ = some (g i j) := by
  obtain ⟨cs, hr, hs, hx⟩ := H
  exact hr.cellv (hx i hi j hj)
theorem Rec.cell0 (H : Rec w R E s N g) {i : Nat} (hi : i < N) (hs : 0 < s) : w.cell? ⟨R, i * s, none⟩ = some (g i 0) := H.cell hi hs
theorem Rec.frozen (H : Rec w R E s N g) (i : Nat) : w.frozen? ⟨R, i, none⟩ = false := by
  obtain ⟨cs, hr, _⟩ := H
  exact hr.frozen i
theorem Rec.set (H : Rec w R E s N g) {i j : Nat} (hi : i < N) (hj : j < s) (v : Value) : Rec (w.setCell ⟨R, i * s + j, none⟩ v) R E s N (upd2 g i j v) := by
  obtain ⟨cs, hr, hs, hx⟩ := H
  refine ⟨_, hr.set _ v, by simp [hs], fun a ha b hb => ?_⟩
  by_cases e : a = i ∧ b = j
  · obtain ⟨rfl, rfl⟩ := e
    rw [Array.getElem?_setIfInBounds, if_pos rfl, if_pos (by rw [hs]; exact rec_lt ha hb), upd2, if_pos ⟨rfl, rfl⟩]
  · rw [Array.getElem?_setIfInBounds, if_neg (fun e' => e (by have := rec_inj hj hb e'; exact ⟨this.1.symm, this.2.symm⟩)), upd2, if_neg e]
    exact hx a ha b hb
theorem Rec.set0 (H : Rec w R E s N g) {i : Nat} (hi : i < N) (hs : 0 < s) (v : Value) : Rec (w.setCell ⟨R, i * s, none⟩ v) R E s N (upd2 g i 0 v) := H.set hi hs v
theorem Rec.set_other (H : Rec w R E s N g) {c : Nat} (hc : R ≠ c) (j : Nat) (u : Value) : Rec (w.setCell ⟨c, j, none⟩ u) R E s N g := by
  obtain ⟨cs, hr, hs, hx⟩ := H
  exact ⟨cs, hr.set_other hc j u, hs, hx⟩
theorem Rec.kept (H : Rec w R E s N g) (hk : w'.heap[R]? = w.heap[R]?) : Rec w' R E s N g := by
  obtain ⟨cs, hr, hs, hx⟩ := H
  exact ⟨cs, hk.trans hr, hs, hx⟩
theorem Rec.below {B : Nat} (H : Rec w R E s N g) (hb : Below B w w') (hlt : R < B) : Rec w' R E s N g := H.kept (hb.block R hlt)
theorem Rec.alloc (H : Rec w R E s N g) (o : Obj) : Rec (w.alloc o) R E s N g := H.kept (Below.heap_alloc _ _ _ H.lt)
theorem Rec.drewN (H : Rec w R E s N g) (n : Nat) : Rec (w.drewN n) R E s N g := H
theorem Rec.congr (H : Rec w R E s N g) (e : ∀ i, i < N → ∀ j, j < s → g i j = h i j) : Rec w R E s N h := by
  obtain ⟨cs, hr, hs, hx⟩ := H
  exact ⟨cs, hr, hs, fun i hi j hj => (hx i hi j hj).trans (by rw [e i hi j hj])⟩
theorem Rec.made {B n : Nat} {z : Array Value} (h : w.ownsRow B E s (.slice (some ⟨R, 0, none⟩) n n) n (madeCells z (n * s)).toList) (hz : z.size = s) : Rec w R E s n (fun _ j => z[j]!) := by
  obtain ⟨cs, hr, hs, hx⟩ := Cells.made h
  refine ⟨cs, hr, hs, fun i hi j hj => ?_⟩
  rw [hx _ (rec_lt hi hj)]
  show some (z[(i * s + j) % z.size]!) = _
  rw [hz, Nat.mul_comm, Nat.mul_add_mod, Nat.mod_eq_of_lt hj]
end

def f3 (a0 a1 a2 : Value) (j : Nat) : Value := if j = 0 then a0 else if j = 1 then a1 else a2
theorem Rec.set3 {w : World} {R N i : Nat} {E : TypeId} {g : Nat → Nat → Value} (H : Rec w R E 3 N g) (hi : i < N) (a0 a1 a2 : Value) : Rec (((w.setCell ⟨R, i * 3, none⟩ a0).setCell ⟨R, i * 3 + 1, none⟩ a1).setCell ⟨R, i * 3 + 2, none⟩ a2) R E 3 N (updS2 g i (f3 a0 a1 a2)) := by
  have h := (((H.set0 hi (by omega) a0)).set hi (j := 1) (by omega) a1).set hi (j := 2) (by omega) a2
  refine h.congr fun a ha b hb => ?_
  unfold updS2 upd2 f3
  by_cases e : a = i
  · have hb' : b = 0 ∨ b = 1 ∨ b = 2 := by omega
    rcases hb' with rfl | rfl | rfl <;> simp [e]
  · simp [e]

def f6 (a0 a1 a2 a3 a4 a5 : Value) (j : Nat) : Value := if j = 0 then a0 else if j = 1 then a1 else if j = 2 then a2 else if j = 3 then a3 else if j = 4 then a4 else a5
theorem Rec.set6 {w : World} {R N i : Nat} {E : TypeId} {g : Nat → Nat → Value} (H : Rec w R E 6 N g) (hi : i < N) (a0 a1 a2 a3 a4 a5 : Value) : Rec ((((((w.setCell ⟨R, i * 6, none⟩ a0).setCell ⟨R, i * 6 + 1, none⟩ a1).setCell ⟨R, i * 6 + 2, none⟩ a2).setCell ⟨R, i * 6 + 3, none⟩ a3).setCell ⟨R, i * 6 + 4, none⟩ a4).setCell ⟨R, i * 6 + 5, none⟩ a5) R E 6 N (updS2 g i (f6 a0 a1 a2 a3 a4 a5)) := by
  have h := ((((((H.set0 hi (by omega) a0)).set hi (j := 1) (by omega) a1).set hi (j := 2) (by omega) a2).set hi (j := 3) (by omega) a3).set hi (j := 4) (by omega) a4).set hi (j := 5) (by omega) a5
  refine h.congr fun a ha b hb => ?_
  unfold updS2 upd2 f6
  by_cases e : a = i
  · have hb' : b = 0 ∨ b = 1 ∨ b = 2 ∨ b = 3 ∨ b = 4 ∨ b = 5 := by omega
    rcases hb' with rfl | rfl | rfl | rfl | rfl | rfl <;> simp [e]
  · simp [e]

/-- Structs i and j change places. -/
def sw2 (g : Nat → Nat → Value) (i j : Nat) : Nat → Nat → Value := fun a b => if a = i then g j b else if a = j then g i b else g a b

theorem addr_add (B p i : Nat) : (⟨B, p, none⟩ : Addr).add i = ⟨B, p + i, none⟩ := by
  unfold Addr.add
  split
  · rename_i h; rw [h]; rfl
  · rfl
theorem RowUpTo.cellA {w : World} {R N n : Nat} {E : TypeId} {f : Nat → Value} (h : RowUpTo w R E N n f) {i : Nat} (hi : i < n) : w.cell? ((⟨R, 0, none⟩ : Addr).add i) = some (f i) := by
  rw [addr_add, Nat.zero_add]
  exact h.cell hi

theorem below_drewN {B : Nat} {w w' : World} (h : Below B w w') (n : Nat) : Below B w (w'.drewN n) := ⟨h.os, h.tape, h.output, h.size, h.block⟩

/-- Two structs at different blocks by their types. -/
theorem RowAt.diff {w : World} {a b : Nat} {cs ds : Array Value} {s t : TypeId} (h : RowAt w a cs s) (g : RowAt w b ds t) (hn : s ≠ t) : a ≠ b := by
  intro e
  subst e
  unfold RowAt at h g
  rw [h] at g
  injection g with g
  injection g with _ g
  exact hn g

end Go.Proofs.YtkncfhhiookgdabGreatFmt
