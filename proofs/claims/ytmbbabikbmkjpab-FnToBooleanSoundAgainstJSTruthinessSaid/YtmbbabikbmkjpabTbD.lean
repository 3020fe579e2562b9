import Derived.Test.YtmbbabikbmkjpabKit
import Derived.Test.YtmbbabikbmkjpabTbC
namespace Go.Proofs.Ytmbbabikbmkjpab.fnToBooleanSoundAgainstJSTruthiness
open Go.ChangeShapes Go.WideShapes Go.ChangeAt Go.RowKit
set_option linter.unusedVariables false
set_option maxRecDepth 100000
set_option maxHeartbeats 2000000

theorem info32 : (Try.prog.info? 32).map (fun i => (i.zero, i.size, i.bytes)) = some (some (.agg #[.nilIface, .int .i32 0]), 2, 24) := by kernel_rfl
theorem info33 : (Try.prog.info? 33).map (fun i => (i.zero, i.size, i.bytes)) = some (some (.int .i8 0), 1, 1) := by kernel_rfl

/-- An entry of the stack: the node's type, its block, its truth. -/
abbrev Nd := Nat × Nat × Int
def esL (st : List Nd) : List Value := st.flatMap fun x => [.iface x.1 (.pointer (some ⟨x.2.1, 0, none⟩)), .int .i32 0]
def tsL (st : List Nd) : List Value := st.map fun x => .int .i8 x.2.2
theorem esL_snoc (st : List Nd) (x : Nd) : esL (st ++ [x]) = esL st ++ [.iface x.1 (.pointer (some ⟨x.2.1, 0, none⟩)), .int .i32 0] := by simp [esL]
theorem tsL_snoc (st : List Nd) (x : Nd) : tsL (st ++ [x]) = tsL st ++ [.int .i8 x.2.2] := by simp [tsL]
theorem esL_len : ∀ st : List Nd, (esL st).length = st.length * 2
  | [] => rfl
  | x :: l => by
    have := esL_len l
    simp only [esL, List.flatMap_cons, List.length_append, List.length_cons, List.length_nil] at this ⊢
    omega
theorem tsL_len (st : List Nd) : (tsL st).length = st.length := by simp [tsL]
theorem esL_app (a b : List Nd) : esL (a ++ b) = esL a ++ esL b := by simp [esL]
theorem tsL_app (a b : List Nd) : tsL (a ++ b) = tsL a ++ tsL b := by simp [tsL]

/-- The stack: the row of expressions, the row of truths. -/
structure StkAt (w : World) (B g7 c7 g8 c8 : Nat) (st : List Nd) : Prop where
  b7 : B ≤ g7
  b8 : B ≤ g8
  es : ∃ cs, RowAt w g7 cs 32 ∧ cs.size = c7 * 2 ∧ st.length ≤ c7 ∧ c7 ≤ maxLen ∧ cs.toList.take (st.length * 2) = esL st
  ts : ∃ cs, RowAt w g8 cs 33 ∧ cs.size = c8 ∧ st.length ≤ c8 ∧ c8 ≤ maxLen ∧ cs.toList.take st.length = tsL st
  good : ∀ x ∈ st, Good w x.1 x.2.1 x.2.2 ∧ Tri x.2.2

section
variable {w w' : World} {B g7 c7 g8 c8 : Nat} {L T st : List Nd} {x : Nd}
theorem StkAt.ownE (h : StkAt w B g7 c7 g8 c8 st) : w.ownsRow B 32 2 (.slice (some ⟨g7, 0, none⟩) st.length c7) st.length (esL st) := by
  obtain ⟨cs, h1, h2, h3, h4, h5⟩ := h.es
  exact ⟨esL_len st, .inr ⟨g7, c7, cs, rfl, h.b7, h1, h3, h4, h2, h5⟩⟩
theorem StkAt.ownT (h : StkAt w B g7 c7 g8 c8 st) : w.ownsRow B 33 1 (.slice (some ⟨g8, 0, none⟩) st.length c8) st.length (tsL st) := by
  obtain ⟨cs, h1, h2, h3, h4, h5⟩ := h.ts
  exact ⟨by simp [tsL_len], .inr ⟨g8, c8, cs, rfl, h.b8, h1, h3, h4, by simpa using h2, by simpa using h5⟩⟩
theorem StkAt.of_own {v7 v8 : Value} (hp : 0 < st.length) (h1 : w.ownsRow B 32 2 v7 st.length (esL st)) (h2 : w.ownsRow B 33 1 v8 st.length (tsL st)) (hg : ∀ x ∈ st, Good w x.1 x.2.1 x.2.2 ∧ Tri x.2.2) :
    ∃ g7 c7 g8 c8, v7 = .slice (some ⟨g7, 0, none⟩) st.length c7 ∧ v8 = .slice (some ⟨g8, 0, none⟩) st.length c8 ∧ StkAt w B g7 c7 g8 c8 st := by
  rcases h1.2 with ⟨_, h0⟩ | ⟨g7, c7, cs, rfl, q1, q2, q3, q4, q5, q6⟩
  · omega
  rcases h2.2 with ⟨_, h0⟩ | ⟨g8, c8, ds, rfl, r1, r2, r3, r4, r5, r6⟩
  · omega
  exact ⟨g7, c7, g8, c8, rfl, rfl, q1, r1, ⟨cs, q2, q5, q3, q4, q6⟩, ⟨ds, r2, by simpa using r5, r3, r4, by simpa using r6⟩, hg⟩
theorem StkAt.kept (h : StkAt w B g7 c7 g8 c8 st) (h7 : w'.heap[g7]? = w.heap[g7]?) (h8 : w'.heap[g8]? = w.heap[g8]?) (hk : KeptT w w') : StkAt w' B g7 c7 g8 c8 st := by
  obtain ⟨b7, b8, ⟨cs, h1, h2⟩, ⟨ds, h3, h4⟩, hg⟩ := h
  exact ⟨b7, b8, ⟨cs, h7.trans h1, h2⟩, ⟨ds, h8.trans h3, h4⟩, fun x hx => ⟨(hg x hx).1.kept hk, (hg x hx).2⟩⟩
theorem StkAt.below (h : StkAt w B g7 c7 g8 c8 st) (hb : Below w.heap.size w w') : StkAt w' B g7 c7 g8 c8 st := by
  obtain ⟨cs, h1, _⟩ := h.es
  obtain ⟨ds, h3, _⟩ := h.ts
  exact h.kept (hb.block _ h1.lt) (hb.block _ h3.lt) (KeptT.below hb)
theorem StkAt.shrink (h : StkAt w B g7 c7 g8 c8 (L ++ T)) : StkAt w B g7 c7 g8 c8 L := by
  obtain ⟨b7, b8, ⟨cs, h1, h2, h3, h4, h5⟩, ⟨ds, q1, q2, q3, q4, q5⟩, hg⟩ := h
  rw [List.length_append] at h3 h5 q3 q5
  refine ⟨b7, b8, ⟨cs, h1, h2, by omega, h4, ?_⟩, ⟨ds, q1, q2, by omega, q4, ?_⟩, fun x hx => hg x (List.mem_append_left _ hx)⟩
  · have e : cs.toList.take (L.length * 2) = (cs.toList.take ((L.length + T.length) * 2)).take (L.length * 2) := by
      rw [List.take_take, Nat.min_eq_left (by omega)]
    rw [e, h5, esL_app, ← esL_len, List.take_left]
  · have e : ds.toList.take L.length = (ds.toList.take (L.length + T.length)).take L.length := by
      rw [List.take_take, Nat.min_eq_left (by omega)]
    rw [e, q5, tsL_app, ← tsL_len, List.take_left]
theorem StkAt.cells (h : StkAt w B g7 c7 g8 c8 (L ++ x :: T)) : w.cell? ⟨g7, L.length * 2, none⟩ = some (.iface x.1 (.pointer (some ⟨x.2.1, 0, none⟩))) ∧ w.cell? ⟨g7, L.length * 2 + 1, none⟩ = some (.int .i32 0) ∧ w.cell? ⟨g8, L.length, none⟩ = some (.int .i8 x.2.2) := by
  obtain ⟨b7, b8, ⟨cs, h1, h2, h3, h4, h5⟩, ⟨ds, q1, q2, q3, q4, q5⟩, hg⟩ := h
  rw [List.length_append, List.length_cons] at h3 h5 q3 q5
  have e : ∀ i v, i < (L.length + (T.length + 1)) * 2 → (esL (L ++ x :: T))[i]? = some v → cs[i]? = some v := fun i v hi hv => by
    rw [← h5, List.getElem?_take, if_pos hi] at hv
    simpa using hv
  have e' : ∀ i v, i < L.length + (T.length + 1) → (tsL (L ++ x :: T))[i]? = some v → ds[i]? = some v := fun i v hi hv => by
    rw [← q5, List.getElem?_take, if_pos hi] at hv
    simpa using hv
  have s : esL (L ++ x :: T) = esL L ++ ([.iface x.1 (.pointer (some ⟨x.2.1, 0, none⟩)), .int .i32 0] ++ esL T) := by rw [esL_app]; rfl
  refine ⟨h1.cellv (e _ _ (by omega) ?_), h1.cellv (e _ _ (by omega) ?_), q1.cellv (e' _ _ (by omega) ?_)⟩
  · rw [s, List.getElem?_append_right (by rw [esL_len]; omega), esL_len, Nat.sub_self]
    rfl
  · rw [s, List.getElem?_append_right (by rw [esL_len]; omega), esL_len, Nat.add_sub_cancel_left]
    rfl
  · rw [tsL_app, List.getElem?_append_right (by rw [tsL_len]; omega), tsL_len, Nat.sub_self]
    rfl
theorem StkAt.fE (h : StkAt w B g7 c7 g8 c8 st) (o : Nat) : w.frozen? ⟨g7, o, none⟩ = false := by
  obtain ⟨cs, h1, _⟩ := h.es
  exact h1.frozen o
theorem StkAt.fT (h : StkAt w B g7 c7 g8 c8 st) (o : Nat) : w.frozen? ⟨g8, o, none⟩ = false := by
  obtain ⟨cs, h1, _⟩ := h.ts
  exact h1.frozen o
theorem StkAt.lt7 (h : StkAt w B g7 c7 g8 c8 st) : g7 < w.heap.size := by
  obtain ⟨cs, h1, _⟩ := h.es
  exact h1.lt
theorem StkAt.lt8 (h : StkAt w B g7 c7 g8 c8 st) : g8 < w.heap.size := by
  obtain ⟨cs, h1, _⟩ := h.ts
  exact h1.lt
theorem take_set {cs : Array Value} {i n : Nat} {u : Value} (hi : i < cs.size) (hn : i < n) : (cs.setIfInBounds i u).toList.take n = (cs.toList.take n).set i u := by
  rw [Array.toList_setIfInBounds, List.take_set]
theorem set_right {a b : List Value} {i : Nat} (j : Nat) {v : Value} (h : i = a.length + j) : (a ++ b).set i v = a ++ b.set j v := by
  subst h
  simp [List.set_append]
/-- The rows alone. -/
structure StkR (w : World) (B g7 c7 g8 c8 : Nat) (st : List Nd) : Prop where
  b7 : B ≤ g7
  b8 : B ≤ g8
  es : ∃ cs, RowAt w g7 cs 32 ∧ cs.size = c7 * 2 ∧ st.length ≤ c7 ∧ c7 ≤ maxLen ∧ cs.toList.take (st.length * 2) = esL st
  ts : ∃ cs, RowAt w g8 cs 33 ∧ cs.size = c8 ∧ st.length ≤ c8 ∧ c8 ≤ maxLen ∧ cs.toList.take st.length = tsL st
theorem StkR.ownE (h : StkR w B g7 c7 g8 c8 st) : w.ownsRow B 32 2 (.slice (some ⟨g7, 0, none⟩) st.length c7) st.length (esL st) := by
  obtain ⟨cs, h1, h2, h3, h4, h5⟩ := h.es
  exact ⟨esL_len st, .inr ⟨g7, c7, cs, rfl, h.b7, h1, h3, h4, h2, h5⟩⟩
theorem StkR.ownT (h : StkR w B g7 c7 g8 c8 st) : w.ownsRow B 33 1 (.slice (some ⟨g8, 0, none⟩) st.length c8) st.length (tsL st) := by
  obtain ⟨cs, h1, h2, h3, h4, h5⟩ := h.ts
  exact ⟨by simp [tsL_len], .inr ⟨g8, c8, cs, rfl, h.b8, h1, h3, h4, by simpa using h2, by simpa using h5⟩⟩
theorem StkR.below (h : StkR w B g7 c7 g8 c8 st) (hb : Below w.heap.size w w') : StkR w' B g7 c7 g8 c8 st := by
  obtain ⟨b7, b8, ⟨cs, h1, h2⟩, ⟨ds, h3, h4⟩⟩ := h
  exact ⟨b7, b8, ⟨cs, h1.below hb h1.lt, h2⟩, ⟨ds, h3.below hb h3.lt, h4⟩⟩
/-- The top is written over. -/
theorem StkAt.put (h : StkAt w B g7 c7 g8 c8 (L ++ [x])) (U u : Nat) (t : Int) :
    StkR (((w.setCell ⟨g7, L.length * 2, none⟩ (.iface U (.pointer (some ⟨u, 0, none⟩)))).setCell ⟨g7, L.length * 2 + 1, none⟩ (.int .i32 0)).setCell ⟨g8, L.length, none⟩ (.int .i8 t)) B g7 c7 g8 c8 (L ++ [(U, u, t)]) ∧
    KeptT w (((w.setCell ⟨g7, L.length * 2, none⟩ (.iface U (.pointer (some ⟨u, 0, none⟩)))).setCell ⟨g7, L.length * 2 + 1, none⟩ (.int .i32 0)).setCell ⟨g8, L.length, none⟩ (.int .i8 t)) := by
  obtain ⟨b7, b8, ⟨cs, h1, h2, h3, h4, h5⟩, ⟨ds, q1, q2, q3, q4, q5⟩, hgd⟩ := h
  have hne : g7 ≠ g8 := h1.diff q1 (by decide)
  have r1 := (h1.set (L.length * 2) (.iface U (.pointer (some ⟨u, 0, none⟩)))).set (L.length * 2 + 1) (.int .i32 0)
  have r2 := (q1.set_other (fun e => hne e.symm) (L.length * 2) (.iface U (.pointer (some ⟨u, 0, none⟩)))).set_other (fun e => hne e.symm) (L.length * 2 + 1) (.int .i32 0)
  have hk : KeptT w (((w.setCell ⟨g7, L.length * 2, none⟩ (.iface U (.pointer (some ⟨u, 0, none⟩)))).setCell ⟨g7, L.length * 2 + 1, none⟩ (.int .i32 0)).setCell ⟨g8, L.length, none⟩ (.int .i8 t)) :=
    (((KeptT.refl (w := w)).set h1 (.inl rfl) _).set (h1.set _ _) (.inl rfl) _).set r2 (.inr rfl) _
  simp only [List.length_append, List.length_cons, List.length_nil, Nat.zero_add] at h3 h5 q3 q5
  have hl : ∀ y : Nd, (L ++ [y]).length = L.length + 1 := fun y => by simp
  refine ⟨⟨b7, b8, ⟨_, r1.set_other hne _ _, by simpa using h2, by rw [hl]; exact h3, h4, ?_⟩, ⟨_, r2.set _ _, by simpa using q2, by rw [hl]; exact q3, q4, ?_⟩⟩, hk⟩
  · rw [hl, take_set (by simp; omega) (by omega), take_set (by omega) (by omega), h5, esL_snoc, esL_snoc]
    rw [set_right 0 (by rw [esL_len]; rfl), set_right 1 (by rw [esL_len])]
    rfl
  · rw [hl, take_set (by omega) (by omega), q5, tsL_snoc, tsL_snoc]
    rw [set_right 0 (by rw [tsL_len]; rfl)]
    rfl
theorem StkAt.goodAt (h : StkAt w B g7 c7 g8 c8 (L ++ x :: T)) : Good w x.1 x.2.1 x.2.2 ∧ Tri x.2.2 := h.good x (by simp)
end

theorem own_row {w : World} {B n g E s : Nat} {v : Value} {xs : List Value} (h : w.ownsRow B E s v n xs) (hg : v.ownBlock = some g) : (∃ cs, RowAt w g cs E) ∧ B ≤ g := by
  rcases h.2 with ⟨rfl, _⟩ | ⟨g', cap, cur, rfl, hb, hh, _⟩
  · cases hg
  · have : g' = g := by simpa [Value.ownBlock] using hg
    subst this
    exact ⟨⟨cur, hh⟩, hb⟩
theorem KeptT.grown {w w' : World} {B n E s : Nat} {v : Value} {xs : List Value} (ho : w.ownsRow B E s v n xs) (h : w.grownBy w' v.ownBlock) (hE : E = 32 ∨ E = 33) : KeptT w w' := ⟨h.size, fun b cs T hr h1 h2 => by
  refine (h.block b hr.lt fun e => ?_).trans hr
  obtain ⟨⟨ds, d⟩, _⟩ := own_row ho e.symm
  exact hr.diff d (by rcases hE with rfl | rfl <;> assumption) rfl⟩
theorem own_other {w w' : World} {B n E s n' E' s' : Nat} {v v' : Value} {xs xs' : List Value} (ho : w.ownsRow B E s v n xs) (ho' : w.ownsRow B E' s' v' n' xs') (hne : E' ≠ E) (h : w.grownBy w' v.ownBlock) : w'.ownsRow B E' s' v' n' xs' := by
  refine ⟨ho'.1, ?_⟩
  rcases ho'.2 with h0 | ⟨g, cap, cur, e1, e2, e3, e4⟩
  · exact .inl h0
  · refine .inr ⟨g, cap, cur, e1, e2, ?_, e4⟩
    have hr : RowAt w g cur E' := e3
    refine (h.block g hr.lt fun e => ?_).trans e3
    obtain ⟨⟨ds, d⟩, _⟩ := own_row ho e.symm
    exact hr.diff d hne rfl
theorem cell_two {W : World} {g : Nat} {a b : Value} {t : TypeId} (h : RowAt W g #[a, b] t) : ∀ j u, [a, b][j]? = some u → W.cell? ((⟨g, 0, none⟩ : Addr).add j) = some u := by
  intro j u hu
  rw [addr_add, Nat.zero_add]
  exact h.cellv (by simpa using hu)
theorem shape {w : World} {B e size n : Nat} {v : Value} {xs : List Value} (h : w.ownsRow B e size v n xs) : ∃ a c, v = .slice a n c := by
  rcases h.2 with ⟨rfl, rfl⟩ | ⟨g, cap, cur, rfl, _⟩
  · exact ⟨_, _, rfl⟩
  · exact ⟨_, _, rfl⟩

end Go.Proofs.Ytmbbabikbmkjpab.fnToBooleanSoundAgainstJSTruthiness
