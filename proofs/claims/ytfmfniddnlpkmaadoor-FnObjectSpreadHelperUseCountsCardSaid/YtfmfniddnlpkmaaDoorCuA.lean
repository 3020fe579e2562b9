import Derived.Test.YtfmfniddnlpkmaaDoorKit
import Derived.Test.YtfmfniddnlpkmaaDoorCells
namespace Go.Proofs.YtfmfniddnlpkmaaDoor
open Go.ChangeShapes Go.WideShapes Go.ChangeAt Go.RowKit
set_option linter.unusedVariables false
set_option maxRecDepth 100000
set_option maxHeartbeats 2000000

theorem RowAt.ne {w : World} {a b : Nat} {cs ds : Array Value} {s t : TypeId} (h : RowAt w a cs s) (g : RowAt w b ds t) (hn : s ≠ t) : a ≠ b := by
  intro e
  subst e
  unfold RowAt at h g
  rw [h] at g
  injection g with g
  injection g with _ g
  exact hn g
theorem RowAt.newAt {W : World} {b : Nat} {cs : Array Value} {t : TypeId} (hb : b = W.heap.size) : RowAt (W.alloc (.cells cs t)) b cs t := by
  subst hb
  exact RowAt.new _ _ _
theorem RowAt.kept {w w' : World} {b : Nat} {cs : Array Value} {t : TypeId} (h : RowAt w b cs t) (hk : w'.heap[b]? = w.heap[b]?) : RowAt w' b cs t := hk.trans h

/-- Nothing but the blocks of X has turned, new ones apart. -/
structure Fr (X : Nat → Prop) (w w' : World) : Prop where
  os : w'.os = w.os
  tape : w'.tape = w.tape
  output : w'.output = w.output
  size : w.heap.size ≤ w'.heap.size
  block : ∀ j, j < w.heap.size → ¬ X j → w'.heap[j]? = w.heap[j]?
theorem Fr.below {X : Nat → Prop} {w w' : World} {B : Nat} (h : Fr X w w') (hX : ∀ j, X j → B ≤ j) (hB : B ≤ w.heap.size) : Below B w w' :=
  ⟨h.os, h.tape, h.output, h.size, fun j hj => h.block j (by omega) (fun hx => by have := hX j hx; omega)⟩
theorem Fr.refl {X : Nat → Prop} {w : World} : Fr X w w := ⟨rfl, rfl, rfl, Nat.le_refl _, fun _ _ _ => rfl⟩
theorem Fr.trans {X : Nat → Prop} {w w' w'' : World} (h : Fr X w w') (g : Fr X w' w'') : Fr X w w'' :=
  ⟨g.os.trans h.os, g.tape.trans h.tape, g.output.trans h.output, Nat.le_trans h.size g.size, fun j hj hx => (g.block j (Nat.lt_of_lt_of_le hj h.size) hx).trans (h.block j hj hx)⟩
theorem Fr.of_below {X : Nat → Prop} {w w' : World} (h : Below w.heap.size w w') : Fr X w w' := ⟨h.os, h.tape, h.output, h.size, fun j hj _ => h.block j hj⟩
theorem Fr.mono {X Y : Nat → Prop} {w w' : World} (h : Fr X w w') (hs : ∀ j, X j → Y j) : Fr Y w w' := ⟨h.os, h.tape, h.output, h.size, fun j hj hx => h.block j hj (fun x => hx (hs j x))⟩
theorem Fr.set {X : Nat → Prop} {w w' : World} (h : Fr X w w') {b o : Nat} {v : Value} (hb : X b ∨ w.heap.size ≤ b) : Fr X w (w'.setCell ⟨b, o, none⟩ v) :=
  ⟨h.os, h.tape, h.output, by simpa using h.size, fun j hj hx => by
    rw [Below.heap_setCell _ _ _ _ (fun e => by subst e; rcases hb with hb | hb; exact hx hb; omega)]
    exact h.block j hj hx⟩
theorem Fr.alloc {X : Nat → Prop} {w w' : World} (h : Fr X w w') (o : Obj) : Fr X w (w'.alloc o) :=
  h.trans (Fr.of_below ((Below.refl _ _).alloc (Nat.le_refl _) _))
theorem Fr.drew {X : Nat → Prop} {w w' : World} (h : Fr X w w') : Fr X w w'.drew :=
  h.trans (Fr.of_below (Below.refl _ _).drew)
/-- The use counts of the n symbols of row S. -/
def Syms (w : World) (S n : Nat) (f : Nat → Int) : Prop := ∃ cs, RowAt w S cs 59 ∧ cs.size = n * 10 ∧ ∀ i, i < n → cs[i * 10 + 4]? = some (.int .u32 (f i))

def updN (f : Nat → Int) (k : Nat) (x : Int) : Nat → Int := fun i => if i = k then x else f i

theorem Syms.set {w : World} {S n k : Nat} {f : Nat → Int} (h : Syms w S n f) (x : Int) (hk : k < n) : Syms (w.setCell ⟨S, k * 10 + 4, none⟩ (.int .u32 x)) S n (updN f k x) := by
  obtain ⟨cs, hr, hs, hx⟩ := h
  refine ⟨_, hr.set _ _, by simp [hs], fun i hi => ?_⟩
  by_cases e : i = k
  · subst e
    rw [Array.getElem?_setIfInBounds, if_pos rfl, if_pos (by omega), updN, if_pos rfl]
  · rw [Array.getElem?_setIfInBounds, if_neg (by omega), updN, if_neg e]
    exact hx i hi
theorem Syms.kept {w w' : World} {S n : Nat} {f : Nat → Int} (h : Syms w S n f) (hk : w'.heap[S]? = w.heap[S]?) : Syms w' S n f := by
  obtain ⟨cs, hr, hs, hx⟩ := h
  exact ⟨cs, hk.trans hr, hs, hx⟩
theorem Syms.lt {w : World} {S n : Nat} {f : Nat → Int} (h : Syms w S n f) : S < w.heap.size := by
  obtain ⟨cs, hr, _⟩ := h
  exact hr.lt
theorem Syms.cell {w : World} {S n k : Nat} {f : Nat → Int} (h : Syms w S n f) (hk : k < n) : w.cell? ⟨S, k * 10 + 4, none⟩ = some (.int .u32 (f k)) := by
  obtain ⟨cs, hr, hs, hx⟩ := h
  exact hr.cellv (hx k hk)
theorem Syms.frozen {w : World} {S n : Nat} {f : Nat → Int} (h : Syms w S n f) (o : Nat) : w.frozen? ⟨S, o, none⟩ = false := by
  obtain ⟨cs, hr, hs, hx⟩ := h
  exact hr.frozen o


/-- The parser's own cells. -/
structure PRow (w : World) (p S n : Nat) (cs : Array Value) : Prop where
  row : RowAt w p cs 184
  sym : cs[106]? = some (.slice (some ⟨S, 0, none⟩) n n)
  dead : cs[350]? = some (.bool false)
  part : cs[105]? = some (.pointer none)

structure St (w : World) (p S n : Nat) (f : Nat → Int) : Prop where
  P : ∃ cs, PRow w p S n cs
  Sy : Syms w S n f
/-- What is turned: the row of symbols. -/
def XS (S : Nat) : Nat → Prop := fun j => j = S

section
variable {w w' : World} {p S n k : Nat} {f : Nat → Int}
theorem St.kept (h : St w p S n f) (hk : ∀ j, (∃ cs t, RowAt w j cs t ∧ (t = 184 ∨ t = 59)) → w'.heap[j]? = w.heap[j]?) : St w' p S n f := by
  obtain ⟨⟨cs, h1⟩, cs2, h2, h3⟩ := h
  exact ⟨⟨cs, h1.row.kept (hk _ ⟨_, _, h1.row, .inl rfl⟩), h1.sym, h1.dead, h1.part⟩, cs2, h2.kept (hk _ ⟨_, _, h2, .inr rfl⟩), h3⟩
theorem St.later (h : St w p S n f) (hk : ∀ j, j < w.heap.size → w'.heap[j]? = w.heap[j]?) : St w' p S n f :=
  h.kept fun j hj => by obtain ⟨_, _, h, _⟩ := hj; exact hk j h.lt
theorem St.below (h : St w p S n f) (hb : Below w.heap.size w w') : St w' p S n f := h.later hb.block
theorem St.setS (h : St w p S n f) (x : Int) (hk : k < n) : St (w.setCell ⟨S, k * 10 + 4, none⟩ (.int .u32 x)) p S n (updN f k x) := by
  obtain ⟨⟨cs, h1⟩, h2⟩ := h
  obtain ⟨es, s1, _⟩ := id h2
  exact ⟨⟨cs, h1.row.set_other (h1.row.ne s1 (by decide)) _ _, h1.sym, h1.dead, h1.part⟩, h2.set x hk⟩
theorem St.set_row (h : St w p S n f) {b : Nat} {cs : Array Value} {t : TypeId} (hr : RowAt w b cs t) (h1 : t ≠ 184) (h2 : t ≠ 59) (o : Nat) (v : Value) : St (w.setCell ⟨b, o, none⟩ v) p S n f :=
  h.kept fun j hj => by
    obtain ⟨ds, u, hd, hu⟩ := hj
    exact Below.heap_setCell _ _ _ _ (hd.ne hr (by rcases hu with rfl | rfl; exact fun e => h1 e.symm; exact fun e => h2 e.symm))
end

def refV (k : Nat) : Value := .agg #[.int .u32 0, .int .u32 k]

/-- A chain of n dots over the value of kind t (0: an identifier of symbol k, 1: an import's, 2: nothing). -/
def Ch (w : World) (t k : Nat) : Nat → Value → Prop
  | 0, d => (t = 0 ∧ ∃ b cs, d = .iface 203 (.pointer (some ⟨b, 0, none⟩)) ∧ RowAt w b cs 205 ∧ cs[0]? = some (.int .u32 0) ∧ cs[1]? = some (.int .u32 k)) ∨
      (t = 1 ∧ ∃ b cs, d = .iface 206 (.pointer (some ⟨b, 0, none⟩)) ∧ RowAt w b cs 208 ∧ cs[0]? = some (.int .u32 0) ∧ cs[1]? = some (.int .u32 k)) ∨
      (t = 2 ∧ d = .nilIface)
  | n + 1, d => ∃ b cs d', d = .iface 209 (.pointer (some ⟨b, 0, none⟩)) ∧ RowAt w b cs 212 ∧ cs[0]? = some d' ∧ cs[1]? = some (.int .i32 0) ∧ Ch w t k n d'

theorem Ch.kept {w w' : World} {t k : Nat} (hk : ∀ j, (∃ cs u, RowAt w j cs u ∧ (u = 205 ∨ u = 208 ∨ u = 212)) → w'.heap[j]? = w.heap[j]?) : ∀ {n : Nat} {d : Value}, Ch w t k n d → Ch w' t k n d
  | 0, d, h => by
    rcases h with ⟨e, b, cs, hd, hr, h0, h1⟩ | ⟨e, b, cs, hd, hr, h0, h1⟩ | h
    · exact .inl ⟨e, b, cs, hd, hr.kept (hk b ⟨_, _, hr, .inl rfl⟩), h0, h1⟩
    · exact .inr (.inl ⟨e, b, cs, hd, hr.kept (hk b ⟨_, _, hr, .inr (.inl rfl)⟩), h0, h1⟩)
    · exact .inr (.inr h)
  | n + 1, d, h => by
    obtain ⟨b, cs, d', hd, hr, h0, h1, h2⟩ := h
    exact ⟨b, cs, d', hd, hr.kept (hk b ⟨_, _, hr, .inr (.inr rfl)⟩), h0, h1, Ch.kept hk h2⟩
theorem Ch.later {w w' : World} {t k n : Nat} {d : Value} (h : Ch w t k n d) (hk : ∀ j, j < w.heap.size → w'.heap[j]? = w.heap[j]?) : Ch w' t k n d :=
  h.kept fun j hj => by obtain ⟨_, _, h, _⟩ := hj; exact hk j h.lt
theorem Ch.below {w w' : World} {t k n : Nat} {d : Value} (h : Ch w t k n d) (hb : Below w.heap.size w w') : Ch w' t k n d := h.later hb.block
theorem Ch.shape {w : World} {t k n : Nat} {d : Value} (h : Ch w t k n d) : d = .nilIface ∨ ∃ U u, d = .iface U (.pointer (some ⟨u, 0, none⟩)) := by
  cases n with
  | zero =>
    rcases h with ⟨e, b, cs, hd, _⟩ | ⟨e, b, cs, hd, _⟩ | ⟨_, h⟩
    · exact .inr ⟨_, _, hd⟩
    · exact .inr ⟨_, _, hd⟩
    · exact .inl h
  | succ n =>
    obtain ⟨b, cs, d', hd, _⟩ := h
    exact .inr ⟨_, _, hd⟩

/-- The listed variable's two cells. -/
def IR (w : World) : Prop := w.cell? ⟨0, 0, none⟩ = some (.int .u32 4294967295) ∧ w.cell? ⟨0, 1, none⟩ = some (.int .u32 4294967295)
theorem IR.below {w w' : World} (h : IR w) (h' : Below w.heap.size w w') : IR w' := ⟨Proofs.YtfmfniddnlpkmaaDoor.later h.1 h', Proofs.YtfmfniddnlpkmaaDoor.later h.2 h'⟩

end Go.Proofs.YtfmfniddnlpkmaaDoor
