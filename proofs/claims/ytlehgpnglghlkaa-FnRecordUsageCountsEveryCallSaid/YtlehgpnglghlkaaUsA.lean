import Derived.Test.YtlehgpnglghlkaaKit
import Derived.Test.YtlehgpnglghlkaaMap
import Derived.Test.YtlehgpnglghlkaaCells
namespace Go.Proofs.Ytlehgpnglghlkaa
open Go.ChangeShapes Go.WideShapes Go.ChangeAt Go.RowKit
set_option linter.unusedVariables false
set_option maxRecDepth 100000
set_option maxHeartbeats 2000000

theorem RowAt.ne {w : World} {a b : Nat} {cs ds : Array Value} {s t : TypeId} (h : RowAt w a cs s) (g : RowAt w b ds t) (hn : s ≠ t) : a ≠ b := by
  intro e
  subst e
  unfold RowAt at h g
  rw [h] at g
  injection g with g
  injection g with _ g
  exact hn g
theorem RowAt.neMap {w : World} {a b n : Nat} {cs : Array Value} {s : TypeId} {S : Value → Prop} {F : Value → Option Value} (h : RowAt w a cs s) (g : MapIs w b S F n) : a ≠ b := by
  intro e
  subst e
  obtain ⟨es, clk, g, _⟩ := g
  unfold RowAt at h
  rw [h] at g
  cases g
theorem RowAt.newAt {W : World} {b : Nat} {cs : Array Value} {t : TypeId} (hb : b = W.heap.size) : RowAt (W.alloc (.cells cs t)) b cs t := by
  subst hb
  exact RowAt.new _ _ _
theorem RowAt.kept {w w' : World} {b : Nat} {cs : Array Value} {t : TypeId} (h : RowAt w b cs t) (hk : w'.heap[b]? = w.heap[b]?) : RowAt w' b cs t := hk.trans h

/-- Nothing but the blocks of X has turned, new ones apart. -/
structure Fr (X : Nat → Prop) (w w' : World) : Prop where
  os : w'.os = w.os
  tape : w'.tape = w.tape
  output : w'.output = w.output
  size : w.heap.size ≤ w'.heap.size
  block : ∀ j, j < w.heap.size → ¬ X j → w'.heap[j]? = w.heap[j]?
theorem Fr.below {X : Nat → Prop} {w w' : World} {B : Nat} (h : Fr X w w') (hX : ∀ j, X j → B ≤ j) (hB : B ≤ w.heap.size) : Below B w w' :=
  ⟨h.os, h.tape, h.output, h.size, fun j hj => h.block j (by omega) (fun hx => by have := hX j hx; omega)⟩
theorem Fr.refl {X : Nat → Prop} {w : World} : Fr X w w := ⟨rfl, rfl, rfl, Nat.le_refl _, fun _ _ _ => rfl⟩
theorem Fr.trans {X : Nat → Prop} {w w' w'' : World} (h : Fr X w w') (g : Fr X w' w'') : Fr X w w'' :=
  ⟨g.os.trans h.os, g.tape.trans h.tape, g.output.trans h.output, Nat.le_trans h.size g.size, fun j hj hx => (g.block j (Nat.lt_of_lt_of_le hj h.size) hx).trans (h.block j hj hx)⟩
theorem Fr.of_below {X : Nat → Prop} {w w' : World} (h : Below w.heap.size w w') : Fr X w w' := ⟨h.os, h.tape, h.output, h.size, fun j hj _ => h.block j hj⟩
theorem Fr.mono {X Y : Nat → Prop} {w w' : World} (h : Fr X w w') (hs : ∀ j, X j → Y j) : Fr Y w w' := ⟨h.os, h.tape, h.output, h.size, fun j hj hx => h.block j hj (fun x => hx (hs j x))⟩
theorem Fr.set {X : Nat → Prop} {w w' : World} (h : Fr X w w') {b o : Nat} {v : Value} (hb : X b ∨ w.heap.size ≤ b) : Fr X w (w'.setCell ⟨b, o, none⟩ v) :=
  ⟨h.os, h.tape, h.output, by simpa using h.size, fun j hj hx => by
    rw [Below.heap_setCell _ _ _ _ (fun e => by subst e; rcases hb with hb | hb; exact hx hb; omega)]
    exact h.block j hj hx⟩
theorem Fr.alloc {X : Nat → Prop} {w w' : World} (h : Fr X w w') (o : Obj) : Fr X w (w'.alloc o) :=
  h.trans (Fr.of_below ((Below.refl _ _).alloc (Nat.le_refl _) _))
theorem Fr.drew {X : Nat → Prop} {w w' : World} (h : Fr X w w') : Fr X w w'.drew :=
  h.trans (Fr.of_below (Below.refl _ _).drew)
theorem Fr.turned {X : Nat → Prop} {w w' w'' : World} {b : Nat} (h : Fr X w w') (g : Turned b w' w'') (hb : X b ∨ w.heap.size ≤ b) : Fr X w w'' :=
  ⟨g.os.trans h.os, g.tape.trans h.tape, g.output.trans h.output, by rw [g.size]; exact h.size, fun j hj hx => by
    rw [g.block j (fun e => by subst e; rcases hb with hb | hb; exact hx hb; omega)]
    exact h.block j hj hx⟩

/-- The use counts of the n symbols of row S. -/
def Syms (w : World) (S n : Nat) (f : Nat → Int) : Prop := ∃ cs, RowAt w S cs 70 ∧ cs.size = n * 10 ∧ ∀ i, i < n → cs[i * 10 + 4]? = some (.int .u32 (f i))

def updN (f : Nat → Int) (k : Nat) (x : Int) : Nat → Int := fun i => if i = k then x else f i

theorem Syms.set {w : World} {S n k : Nat} {f : Nat → Int} (h : Syms w S n f) (x : Int) (hk : k < n) : Syms (w.setCell ⟨S, k * 10 + 4, none⟩ (.int .u32 x)) S n (updN f k x) := by
  obtain ⟨cs, hr, hs, hx⟩ := h
  refine ⟨_, hr.set _ _, by simp [hs], fun i hi => ?_⟩
  by_cases e : i = k
  · subst e
    rw [Array.getElem?_setIfInBounds, if_pos rfl, if_pos (by omega), updN, if_pos rfl]
  · rw [Array.getElem?_setIfInBounds, if_neg (by omega), updN, if_neg e]
    exact hx i hi
theorem Syms.kept {w w' : World} {S n : Nat} {f : Nat → Int} (h : Syms w S n f) (hk : w'.heap[S]? = w.heap[S]?) : Syms w' S n f := by
  obtain ⟨cs, hr, hs, hx⟩ := h
  exact ⟨cs, hk.trans hr, hs, hx⟩
theorem Syms.lt {w : World} {S n : Nat} {f : Nat → Int} (h : Syms w S n f) : S < w.heap.size := by
  obtain ⟨cs, hr, _⟩ := h
  exact hr.lt
theorem Syms.cell {w : World} {S n k : Nat} {f : Nat → Int} (h : Syms w S n f) (hk : k < n) : w.cell? ⟨S, k * 10 + 4, none⟩ = some (.int .u32 (f k)) := by
  obtain ⟨cs, hr, hs, hx⟩ := h
  exact hr.cellv (hx k hk)
theorem Syms.frozen {w : World} {S n : Nat} {f : Nat → Int} (h : Syms w S n f) (o : Nat) : w.frozen? ⟨S, o, none⟩ = false := by
  obtain ⟨cs, hr, hs, hx⟩ := h
  exact hr.frozen o

/-- The parser's own cells. -/
structure PRow (w : World) (p S T q n : Nat) (dead ts part : Bool) (cs : Array Value) : Prop where
  row : RowAt w p cs 195
  sym : cs[106]? = some (.slice (some ⟨S, 0, none⟩) n n)
  tsc : ts = true → cs[108]? = some (.slice (some ⟨T, 0, none⟩) n n)
  dead : cs[350]? = some (.bool dead)
  ts : cs[32]? = some (.bool ts)
  part : cs[105]? = some (.pointer (if part then some ⟨q, 0, none⟩ else none))

structure St (w : World) (p S T q m n : Nat) (dead ts part : Bool) (f g : Nat → Int) (F : Value → Option Value) (cnt : Nat) : Prop where
  P : ∃ cs, PRow w p S T q n dead ts part cs
  Sy : Syms w S n f
  Ts : ts = true → Cells w T 24 n (fun i => .int .u32 (g i))
  Pt : part = true → (∃ cs, RowAt w q cs 49 ∧ cs[4]? = some (.map (some m))) ∧ MapIs w m IsPair F cnt

/-- The blocks that recording turns. -/
def XX (S T m : Nat) : Nat → Prop := fun j => j = S ∨ j = T ∨ j = m

theorem St.later {w w' : World} {p S T q m n : Nat} {dead ts part : Bool} {f g : Nat → Int} {F : Value → Option Value} {cnt : Nat} (h : St w p S T q m n dead ts part f g F cnt) (hk : ∀ j, j < w.heap.size → w'.heap[j]? = w.heap[j]?) : St w' p S T q m n dead ts part f g F cnt := by
  obtain ⟨⟨cs, h1⟩, h2, h3, h4⟩ := h
  refine ⟨⟨cs, h1.row.kept (hk _ h1.row.lt), h1.sym, h1.tsc, h1.dead, h1.ts, h1.part⟩, h2.kept (hk _ h2.lt), fun e => (h3 e).kept (hk _ (h3 e).lt), fun e => ?_⟩
  obtain ⟨⟨ds, h5, h6⟩, h7⟩ := h4 e
  exact ⟨⟨ds, h5.kept (hk _ h5.lt), h6⟩, h7.kept (hk _ h7.lt)⟩

end Go.Proofs.Ytlehgpnglghlkaa
