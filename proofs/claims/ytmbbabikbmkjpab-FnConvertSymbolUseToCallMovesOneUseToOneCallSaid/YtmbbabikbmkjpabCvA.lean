import Derived.Test.YtmbbabikbmkjpabKit
import Derived.Test.YtmbbabikbmkjpabRow
import Derived.Test.YtmbbabikbmkjpabRec
import Derived.Test.YtmbbabikbmkjpabMap
namespace Go.Proofs.Ytmbbabikbmkjpab
open Go.ChangeShapes Go.WideShapes Go.ChangeAt Go.RowKit
set_option linter.unusedVariables false
set_option maxRecDepth 100000
set_option maxHeartbeats 2000000

theorem RowAt.neMap {w : World} {a b n : Nat} {cs : Array Value} {s : TypeId} {S : Value → Prop} {F : Value → Option Value} (h : RowAt w a cs s) (g : MapIs w b S F n) : a ≠ b := by
  intro e
  subst e
  obtain ⟨es, clk, g, _⟩ := g
  unfold RowAt at h
  rw [h] at g
  cases g
theorem RowAt.newAt {W : World} {b : Nat} {cs : Array Value} {t : TypeId} (hb : b = W.heap.size) : RowAt (W.alloc (.cells cs t)) b cs t := by
  subst hb
  exact RowAt.new _ _ _
theorem RowAt.kept {w w' : World} {b : Nat} {cs : Array Value} {t : TypeId} (h : RowAt w b cs t) (hk : w'.heap[b]? = w.heap[b]?) : RowAt w' b cs t := hk.trans h

/-- Nothing but the blocks of X has turned, new ones apart. -/
structure Fr (X : Nat → Prop) (w w' : World) : Prop where
  os : w'.os = w.os
  tape : w'.tape = w.tape
  output : w'.output = w.output
  size : w.heap.size ≤ w'.heap.size
  block : ∀ j, j < w.heap.size → ¬ X j → w'.heap[j]? = w.heap[j]?
theorem Fr.below {X : Nat → Prop} {w w' : World} {B : Nat} (h : Fr X w w') (hX : ∀ j, X j → B ≤ j) (hB : B ≤ w.heap.size) : Below B w w' :=
  ⟨h.os, h.tape, h.output, h.size, fun j hj => h.block j (by omega) (fun hx => by have := hX j hx; omega)⟩
theorem Fr.refl {X : Nat → Prop} {w : World} : Fr X w w := ⟨rfl, rfl, rfl, Nat.le_refl _, fun _ _ _ => rfl⟩
theorem Fr.trans {X : Nat → Prop} {w w' w'' : World} (h : Fr X w w') (g : Fr X w' w'') : Fr X w w'' :=
  ⟨g.os.trans h.os, g.tape.trans h.tape, g.output.trans h.output, Nat.le_trans h.size g.size, fun j hj hx => (g.block j (Nat.lt_of_lt_of_le hj h.size) hx).trans (h.block j hj hx)⟩
theorem Fr.of_below {X : Nat → Prop} {w w' : World} (h : Below w.heap.size w w') : Fr X w w' := ⟨h.os, h.tape, h.output, h.size, fun j hj _ => h.block j hj⟩
theorem Fr.mono {X Y : Nat → Prop} {w w' : World} (h : Fr X w w') (hs : ∀ j, X j → Y j) : Fr Y w w' := ⟨h.os, h.tape, h.output, h.size, fun j hj hx => h.block j hj (fun x => hx (hs j x))⟩
theorem Fr.set {X : Nat → Prop} {w w' : World} (h : Fr X w w') {b o : Nat} {v : Value} (hb : X b ∨ w.heap.size ≤ b) : Fr X w (w'.setCell ⟨b, o, none⟩ v) :=
  ⟨h.os, h.tape, h.output, by simpa using h.size, fun j hj hx => by
    rw [Below.heap_setCell _ _ _ _ (fun e => by subst e; rcases hb with hb | hb; exact hx hb; omega)]
    exact h.block j hj hx⟩
theorem Fr.alloc {X : Nat → Prop} {w w' : World} (h : Fr X w w') (o : Obj) : Fr X w (w'.alloc o) :=
  h.trans (Fr.of_below ((Below.refl _ _).alloc (Nat.le_refl _) _))
theorem Fr.drew {X : Nat → Prop} {w w' : World} (h : Fr X w w') : Fr X w w'.drew :=
  h.trans (Fr.of_below (Below.refl _ _).drew)
theorem Fr.turned {X : Nat → Prop} {w w' w'' : World} {b : Nat} (h : Fr X w w') (g : Turned b w' w'') (hb : X b ∨ w.heap.size ≤ b) : Fr X w w'' :=
  ⟨g.os.trans h.os, g.tape.trans h.tape, g.output.trans h.output, by rw [g.size]; exact h.size, fun j hj hx => by
    rw [g.block j (fun e => by subst e; rcases hb with hb | hb; exact hx hb; omega)]
    exact h.block j hj hx⟩

theorem wpList_putN {P : Program} {w : World} {S : Value → Prop} {ops : Array Oper} {rest : List Oper} {o : Oper} {a : Act} {Q : Exit → Act → World → Prop} (hg : o.guard = none) (m x y : Operand) (t : TypeId) (hop : o.op = Op.mapUpdate t m x y)
    (k e : TypeId) (K : KeysLike P k S) (ht : P.underlying t = some (.map k e)) (b n n' : Nat) (F : Value → Option Value) (hm : a.eval m = .map (some b)) (h : MapIs w b S F n) (v u : Value) (hx : a.eval x = v) (hy : a.eval y = u) (hv : S v) (hn : (if (F v).isSome then n else n + 1) = n')
    (hK : ∀ w', MapIs w' b S (putF F v u) n' → Turned b w w' → wpList P ops Q rest (a.put o.dst undef) w') : wpList P ops Q (o :: rest) a w :=
  wpList_put hg m x y t hop k e K ht b n F hm h v u hx hy hv fun w' h1 h2 => hK w' (hn ▸ h1) h2
theorem wpList_insertN {P : Program} {w : World} {S : Value → Prop} {ops : Array Oper} {rest : List Oper} {o : Oper} {a : Act} {Q : Exit → Act → World → Prop} (hg : o.guard = none) (m x y : Operand) (t : TypeId) (hop : o.op = Op.insert t m x y)
    (k e : TypeId) (K : KeysLike P k S) (ht : P.underlying t = some (.map k e)) (b n n' : Nat) (F : Value → Option Value) (hm : a.eval m = .map (some b)) (h : MapIs w b S F n) (v u : Value) (hx : a.eval x = v) (hy : a.eval y = u) (hv : S v) (hn : (if (F v).isSome then n else n + 1) = n')
    (hK : ∀ w', MapIs w' b S (putF F v u) n' → Turned b w w' → wpList P ops Q rest (a.put o.dst undef) w') : wpList P ops Q (o :: rest) a w := by
  refine wpList_plain hg fun K' hK' => ?_
  obtain ⟨w', hrun, r1, r2⟩ := h.update (x := u) K ht hv
  unfold Oper.wp
  simp [execOp, hop, hm, hx, hy, hrun, Result.andThen]
  exact hK' _ _ (hK w' (hn ▸ r1) r2)
theorem wpList_dropN {P : Program} {w : World} {S : Value → Prop} {ops : Array Oper} {rest : List Oper} {o : Oper} {a : Act} {Q : Exit → Act → World → Prop} (hg : o.guard = none) (m x : Operand) (t k2 : TypeId) (hop : o.op = Op.call { callee := Callee.builtin Builtin.delete, args := #[m, x], argTypes := #[t, k2] })
    (k e : TypeId) (K : KeysLike P k S) (ht : P.underlying t = some (.map k e)) (b n n' : Nat) (F : Value → Option Value) (hm : a.eval m = .map (some b)) (h : MapIs w b S F n) (v : Value) (hx : a.eval x = v) (hv : S v) (hn : (if (F v).isSome then n - 1 else n) = n')
    (hK : ∀ w', MapIs w' b S (delF F v) n' → Turned b w w' → wpList P ops Q rest (a.put o.dst (.tuple #[])) w') : wpList P ops Q (o :: rest) a w :=
  wpList_drop hg m x t k2 hop k e K ht b n F hm h v hx hv fun w' h1 h2 => hK w' (hn ▸ h1) h2
theorem lookRes_false (r : Option Value) (z : Value) : lookRes false r z = r.getD z := by cases r <;> rfl

theorem keyR : KeysLike Try.prog 41 IsPair := keys_pair Try.underlying41 Try.underlying39 Try.underlying39 (by decide +kernel) (by decide +kernel) rfl rfl (by kernel_rfl)
theorem zero43 (w : World) : (zeroValue 43).run Try.prog w = .ok (.agg #[.int .u32 0]) w := by kernel_rfl
theorem zero47 (w : World) : (zeroValue 47).run Try.prog w = .ok (.agg #[.int .u32 0, .int .u32 0]) w := by kernel_rfl

end Go.Proofs.Ytmbbabikbmkjpab
