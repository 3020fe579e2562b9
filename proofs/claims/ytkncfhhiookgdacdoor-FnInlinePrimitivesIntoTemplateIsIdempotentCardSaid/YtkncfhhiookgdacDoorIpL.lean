import Derived.Test.YtkncfhhiookgdacDoorKit
import Derived.Test.YtkncfhhiookgdacDoorAs
import Derived.Test.YtkncfhhiookgdacDoorIpH
import Derived.Deep.RegionLaw
namespace Go.Proofs.YtkncfhhiookgdacDoor
open Go.ChangeShapes Go.WideShapes Go.ChangeAt Go.RowKit
set_option linter.unusedVariables false
set_option maxRecDepth 100000
set_option maxHeartbeats 2000000

open Go.Extern
/-- A slice of numbers, whosever. -/
def Sl16 (w : World) (a : Option Addr) (l c : Nat) : Prop := (a = none ∧ l = 0 ∧ c = 0) ∨ ∃ (x : Addr) (f : Nat → Int), a = some x ∧ ∀ i, i < l → w.cell? (x.add i) = some (.int .u16 (f i))
theorem sl16_later {w w' : World} {a : Option Addr} {l c : Nat} (h : Sl16 w a l c) (hb : Below w.heap.size w w') : Sl16 w' a l c := by
  rcases h with h | ⟨x, f, rfl, h⟩
  · exact .inl h
  · exact .inr ⟨x, f, rfl, fun i hi => later (h i hi) hb⟩
theorem UW.sl16 {w : World} {b0 n c : Nat} {o : Option Addr} (h : UW w b0 (.slice o n c) n) : Sl16 w o n c := by
  rcases h with ⟨e, rfl⟩ | ⟨g, cap, es, e, h1, h2, h3, h4, h5⟩
  · injection e with e1 e2 e3
    subst e1 e3
    exact .inl ⟨rfl, rfl, rfl⟩
  · injection e with e1 e2 e3
    subst e1 e3
    have hx : ∀ i, ∃ k : Int, i < n → es[i]? = some (.int .u16 k) := fun i => by
      by_cases hi : i < n
      · have hs : i < es.size := by omega
        obtain ⟨k, hk⟩ := h5 i es[i] (by simp [hs])
        exact ⟨k, fun _ => by rw [← hk]; simp [hs]⟩
      · exact ⟨0, fun h => absurd h hi⟩
    exact .inr ⟨_, fun i => Classical.choose (hx i), rfl, fun i hi => by rw [add0]; exact h2.cellv (Classical.choose_spec (hx i) hi)⟩
theorem cloneAny (a : Option Addr) (l c b0 : Nat) (w W : World) (hW : Below w.heap.size w W) (h : Sl16 w a l c) (hl : l ≤ 1099511627776) (hb : b0 ≤ W.heap.size) :
    Calls Tryd.prog 6 #[.slice a l c] W fun e w' => ∃ o c', e = .returned (.slice o l c') ∧ Below W.heap.size W w' ∧ UW w' b0 (.slice o l c') l ∧ SameU w' a o l := by
  rcases h with ⟨rfl, rfl, rfl⟩ | ⟨x, f, rfl, h⟩
  · exact (clone_nil W).mono fun e w' ⟨he, hw⟩ => ⟨none, 0, he, by rw [← hw]; exact Below.refl _ _, .inl ⟨rfl, rfl⟩, fun i hi => by omega⟩
  · refine (clone6 x l c f W hl (fun i hi => later (h i hi) hW)).mono fun e w' ⟨he, hr, hbl⟩ => ?_
    obtain ⟨cs, r, hs, hc⟩ := hr
    refine ⟨_, _, he, hbl, .inr ⟨W.heap.size, l, cs, rfl, hb, r, hs, Nat.le_refl _, fun j v hv => ?_⟩, fun i hi => ⟨x, _, f i, rfl, rfl, later (later (h i hi) hW) hbl, by rw [add0]; exact r.cellv (hc i hi)⟩⟩
    have hj : j < l := by
      rcases Nat.lt_or_ge j l with h | h
      · exact h
      · rw [Array.getElem?_eq_none (by omega)] at hv; cases hv
    rw [hc j hj] at hv
    exact ⟨f j, (Option.some.inj hv).symm⟩
theorem rowsCells {w : World} {a : Option Addr} {len cap : Nat} {A : Nat → Option Addr} {L C : Nat → Nat} {Z : Nat → List Int} (h : IsRows .u16 w a len cap A L C Z) :
    ∀ i, i < len → ∃ x, a = some x ∧ w.cell? (x.add i) = some (.slice (A i) (L i) (C i)) ∧ L i ≤ 9223372036854775807 := fun i hi => by
  rcases h with ⟨_, rfl, _⟩ | ⟨x, rfl, h1, h2, h3⟩
  · omega
  · obtain ⟨e1, e2, e3, _⟩ := h3 i (by omega)
    exact ⟨x, rfl, e1, by unfold maxLen at e3; omega⟩
theorem rowsSl {w : World} {a : Option Addr} {len cap : Nat} {A : Nat → Option Addr} {L C : Nat → Nat} {Z : Nat → List Int} (h : IsRows .u16 w a len cap A L C Z) :
    ∀ i, i < len → Sl16 w (A i) (L i) (C i) := fun i hi => by
  rcases h with ⟨_, rfl, _⟩ | ⟨x, rfl, h1, h2, h3⟩
  · omega
  · obtain ⟨e1, e2, e3, e4, e5, e6, e7⟩ := h3 i (by omega)
    cases ha : A i with
    | none =>
      have := e6 ha
      exact .inl ⟨rfl, by omega, this⟩
    | some y => exact .inr ⟨y, fun j => (Z i).getD j 0, rfl, fun j hj => e7 y ha j (by omega)⟩
theorem sameU_later {w w' : World} {a b : Option Addr} {n : Nat} (h : SameU w a b n) (hb : Below w.heap.size w w') : SameU w' a b n := fun i hi => by
  obtain ⟨x, y, k, e1, e2, e3, e4⟩ := h i hi
  exact ⟨x, y, k, e1, e2, later e3 hb, later e4 hb⟩
theorem SameU.symm {w : World} {a b : Option Addr} {n : Nat} (h : SameU w a b n) : SameU w b a n := fun i hi => by
  obtain ⟨x, y, k, e1, e2, e3, e4⟩ := h i hi
  exact ⟨y, x, k, e2, e1, e4, e3⟩
theorem K16.setR {W : World} {g : Nat} {cs : Array Value} {t : TypeId} (r : RowAt W g cs t) (ht : t ≠ 48) (o : Nat) (v : Value) : K16 W (W.setCell ⟨g, o, none⟩ v) := fun x es r' u => ⟨es, r'.set_other (row_ne r' r (Ne.symm ht)) o v, rfl, u⟩
theorem upto_set (f : Nat → Value) (z v : Value) (k i : Nat) : upd (fun i => if i < k then f i else z) k v i = if i < k + 1 then (if i = k then v else f i) else z := by
  unfold upd
  by_cases e : i = k
  · subst e; simp
  · rw [if_neg e]
    by_cases e2 : i < k
    · have e3 : i < k + 1 := by omega
      simp only [e, e2, e3, if_true, if_false]
    · have e3 : ¬ i < k + 1 := by omega
      simp only [e2, e3, if_false]
theorem cells_ne {w : World} {R Q N M : Nat} {s t : TypeId} {f g : Nat → Value} (h : Cells w R s N f) (k : Cells w Q t M g) (hn : s ≠ t) : R ≠ Q := by
  obtain ⟨_, r1, _⟩ := h
  obtain ⟨_, r2, _⟩ := k
  exact row_ne r1 r2 hn
/-- What the first loop keeps. -/
structure L1 (w wx : World) (RS RV RT n ks kv kt : Nat) (S : Nat → Bool) (V T : Nat → Value) : Prop where
  cs : Cells wx RS 4 n (fun i => if i < ks then .bool (S i) else .bool false)
  cv : Cells wx RV 22 n (fun i => if i < kv then V i else .slice none 0 0)
  ct : Cells wx RT 22 n (fun i => if i < kt then T i else .slice none 0 0)
  uv : ∀ i, i < kv → ∃ l, UW wx w.heap.size (V i) l ∧ l ≤ 1048576
  ut : ∀ i, i < kt → ∃ l, UW wx w.heap.size (T i) l ∧ l ≤ 1048576
  below : Below w.heap.size w wx
theorem L1.moved {w wx W : World} {RS RV RT n ks kv kt : Nat} {S : Nat → Bool} {V T : Nat → Value} (L : L1 w wx RS RV RT n ks kv kt S V T) (hb : Below wx.heap.size wx W) : L1 w W RS RV RT n ks kv kt S V T :=
  ⟨L.cs.below hb L.cs.lt, L.cv.below hb L.cv.lt, L.ct.below hb L.ct.lt, fun i hi => by
    obtain ⟨l, h1, h2⟩ := L.uv i hi
    exact ⟨l, h1.moved (K16.of_below hb), h2⟩, fun i hi => by
    obtain ⟨l, h1, h2⟩ := L.ut i hi
    exact ⟨l, h1.moved (K16.of_below hb), h2⟩, L.below.trans (hb.mono L.below.size)⟩
theorem L1.putS {w W : World} {RS RV RT n k kv kt : Nat} {S : Nat → Bool} {V T : Nat → Value} (L : L1 w W RS RV RT n k kv kt S V T) (hR : w.heap.size ≤ RS) (s : Bool) : L1 w (W.setCell ⟨RS, k, none⟩ (.bool s)) RS RV RT n (k + 1) kv kt (fun i => if i = k then s else S i) V T := by
  have k16 : K16 W (W.setCell ⟨RS, k, none⟩ (.bool s)) := by
    obtain ⟨cs, r, _⟩ := L.cs
    exact K16.setR r (by decide) _ _
  refine ⟨(L.cs.set k _).congr fun i hi => ?_, L.cv.set_other (cells_ne L.cv L.cs (by decide)) _ _, L.ct.set_other (cells_ne L.ct L.cs (by decide)) _ _, fun i hi => ?_, fun i hi => ?_, L.below.setCell hR _⟩
  · rw [upto_set]
    by_cases e : i = k
    · simp only [e, if_true]
    · simp only [e, if_false]
  · obtain ⟨l, h1, h2⟩ := L.uv i hi
    exact ⟨l, h1.moved k16, h2⟩
  · obtain ⟨l, h1, h2⟩ := L.ut i hi
    exact ⟨l, h1.moved k16, h2⟩
theorem L1.putV {w W : World} {RS RV RT n ks k kt : Nat} {S : Nat → Bool} {V T : Nat → Value} (L : L1 w W RS RV RT n ks k kt S V T) (hR : w.heap.size ≤ RV) (hne : RV ≠ RT) {v : Value} {l : Nat} (u : UW W w.heap.size v l) (hl : l ≤ 1048576) : L1 w (W.setCell ⟨RV, k, none⟩ v) RS RV RT n ks (k + 1) kt S (fun i => if i = k then v else V i) T := by
  have k16 : K16 W (W.setCell ⟨RV, k, none⟩ v) := by
    obtain ⟨cs, r, _⟩ := L.cv
    exact K16.setR r (by decide) _ _
  refine ⟨L.cs.set_other (cells_ne L.cs L.cv (by decide)) _ _, (L.cv.set k _).congr fun i hi => upto_set _ _ _ _ _, L.ct.set_other hne.symm _ _, fun i hi => ?_, fun i hi => ?_, L.below.setCell hR _⟩
  · by_cases e : i = k
    · exact ⟨l, by simp only [e, if_true]; exact u.moved k16, hl⟩
    · obtain ⟨l, h1, h2⟩ := L.uv i (by omega)
      exact ⟨l, by simp only [e, if_false]; exact h1.moved k16, h2⟩
  · obtain ⟨l, h1, h2⟩ := L.ut i hi
    exact ⟨l, h1.moved k16, h2⟩
theorem L1.skipV {w W : World} {RS RV RT n ks k kt : Nat} {S : Nat → Bool} {V T : Nat → Value} (L : L1 w W RS RV RT n ks k kt S V T) : L1 w W RS RV RT n ks (k + 1) kt S (fun i => if i = k then .slice none 0 0 else V i) T := by
  refine ⟨L.cs, L.cv.congr fun i hi => ?_, L.ct, fun i hi => ?_, L.ut, L.below⟩
  · by_cases e : i = k
    · subst e; simp
    · by_cases e2 : i < k
      · have e3 : i < k + 1 := by omega
        simp only [e, e2, e3, if_true, if_false]
      · have e3 : ¬ i < k + 1 := by omega
        simp only [e2, e3, if_false]
  · by_cases e : i = k
    · exact ⟨0, by simp only [e, if_true]; exact .inl ⟨rfl, rfl⟩, by omega⟩
    · obtain ⟨l, h1, h2⟩ := L.uv i (by omega)
      exact ⟨l, by simp only [e, if_false]; exact h1, h2⟩
theorem L1.putT {w W : World} {RS RV RT n ks kv k : Nat} {S : Nat → Bool} {V T : Nat → Value} (L : L1 w W RS RV RT n ks kv k S V T) (hR : w.heap.size ≤ RT) (hne : RV ≠ RT) {v : Value} {l : Nat} (u : UW W w.heap.size v l) (hl : l ≤ 1048576) : L1 w (W.setCell ⟨RT, k, none⟩ v) RS RV RT n ks kv (k + 1) S V (fun i => if i = k then v else T i) := by
  have k16 : K16 W (W.setCell ⟨RT, k, none⟩ v) := by
    obtain ⟨cs, r, _⟩ := L.ct
    exact K16.setR r (by decide) _ _
  refine ⟨L.cs.set_other (cells_ne L.cs L.ct (by decide)) _ _, L.cv.set_other hne _ _, (L.ct.set k _).congr fun i hi => upto_set _ _ _ _ _, fun i hi => ?_, fun i hi => ?_, L.below.setCell hR _⟩
  · obtain ⟨l, h1, h2⟩ := L.uv i hi
    exact ⟨l, h1.moved k16, h2⟩
  · by_cases e : i = k
    · exact ⟨l, by simp only [e, if_true]; exact u.moved k16, hl⟩
    · obtain ⟨l, h1, h2⟩ := L.ut i (by omega)
      exact ⟨l, by simp only [e, if_false]; exact h1.moved k16, h2⟩
/-- Two slice values that hold the same numbers. -/
def SamV (w : World) (v x : Value) : Prop := ∃ o l c o' c', v = .slice o l c ∧ x = .slice o' l c' ∧ l ≤ 1099511627776 ∧ SameU w o o' l
theorem SamV.later {w w' : World} {v x : Value} (h : SamV w v x) (hb : Below w.heap.size w w') : SamV w' v x := by
  obtain ⟨o, l, c, o', c', h1, h2, h3, h4⟩ := h
  exact ⟨o, l, c, o', c', h1, h2, h3, sameU_later h4 hb⟩
/-- What the second loop keeps. -/
structure Lq (wf wr : World) (R3 R4 m k : Nat) (T X : Nat → Value) (r : Nat → Int) : Prop where
  c3 : Cells wr R3 22 m (fun i => if i < k then X i else .slice none 0 0)
  c4 : Cells wr R4 2 m (fun i => if i < k then .int .i64 (r i) else .int .i64 0)
  same : ∀ i, i < k → SamV wr (T i) (X i)
  below : Below wf.heap.size wf wr
theorem Lq.moved {wf wr W : World} {R3 R4 m k : Nat} {T X : Nat → Value} {r : Nat → Int} (L : Lq wf wr R3 R4 m k T X r) (hb : Below wr.heap.size wr W) : Lq wf W R3 R4 m k T X r :=
  ⟨L.c3.below hb L.c3.lt, L.c4.below hb L.c4.lt, fun i hi => (L.same i hi).later hb, L.below.trans (hb.mono L.below.size)⟩
theorem cell_set_ne {w : World} {a c : Addr} {v : Value} (h : a.block ≠ c.block) : (w.setCell c v).cell? a = w.cell? a := by
  have e : (w.setCell c v).heap[a.block]? = w.heap[a.block]? := Below.heap_setCell _ _ _ _ h
  unfold World.cell?
  rw [e]
theorem sameU_set {w : World} {R k n : Nat} {cs : Array Value} {t : TypeId} {a b : Option Addr} {v : Value} (h : SameU w a b n) (r : RowAt w R cs t) (hno : ∀ (j : Nat) (kk : Int), cs[j]? ≠ some (.int .u16 kk)) : SameU (w.setCell ⟨R, k, none⟩ v) a b n := fun i hi => by
  obtain ⟨x, y, kk, e1, e2, e3, e4⟩ := h i hi
  have q : ∀ z : Addr, w.cell? z = some (.int .u16 kk) → (w.setCell ⟨R, k, none⟩ v).cell? z = some (.int .u16 kk) := fun z hz => by
    rw [cell_set_ne]
    · exact hz
    · intro e
      have hs := cell_spot hz
      obtain ⟨zb, zo, zs⟩ := z
      simp only at e hs
      subst e hs
      exact hno zo kk ((r.cell zo).symm.trans hz)
  exact ⟨x, y, kk, e1, e2, q _ e3, q _ e4⟩
theorem SamV.set {w : World} {R k : Nat} {cs : Array Value} {t : TypeId} {a b v : Value} (h : SamV w a b) (r : RowAt w R cs t) (hno : ∀ (j : Nat) (kk : Int), cs[j]? ≠ some (.int .u16 kk)) : SamV (w.setCell ⟨R, k, none⟩ v) a b := by
  obtain ⟨o, l, c, o', c', h1, h2, h3, h4⟩ := h
  exact ⟨o, l, c, o', c', h1, h2, h3, sameU_set h4 r hno⟩
theorem Lq.put {wf W : World} {R3 R4 m k : Nat} {T X : Nat → Value} {r : Nat → Int} (L : Lq wf W R3 R4 m k T X r) (g3 : wf.heap.size ≤ R3) (g4 : wf.heap.size ≤ R4) (hne : R3 ≠ R4) {x : Value} (hs : SamV W (T k) x) : Lq wf ((W.setCell ⟨R3, k, none⟩ x).setCell ⟨R4, k, none⟩ (.int .i64 (r k))) R3 R4 m (k + 1) T (fun i => if i = k then x else X i) r := by
  have cm : ∀ a, SamV W a x ∨ (∃ i, i < k ∧ SamV W a (X i)) → ∀ b, SamV W a b → SamV ((W.setCell ⟨R3, k, none⟩ x).setCell ⟨R4, k, none⟩ (.int .i64 (r k))) a b := fun a _ b hb => by
    have hX : ∀ i, i < k → ∃ o l c, X i = .slice o l c := fun i hi => by
      obtain ⟨o, l, c, o', c', h1, h2, _⟩ := L.same i hi
      exact ⟨_, _, _, h2⟩
    obtain ⟨cs, r3, s3, q3⟩ := L.c3
    obtain ⟨ds, r4, s4, q4⟩ := L.c4
    refine (hb.set r3 fun j kk => ?_).set (r4.set_other hne.symm k x) fun j kk => ?_
    · by_cases hj : j < m
      · rw [q3 j hj]
        by_cases hjk : j < k
        · obtain ⟨o, l, c, e⟩ := hX j hjk
          simp only [hjk, if_true, e]
          intro h
          cases h
        · simp only [hjk, if_false]
          intro h
          cases h
      · rw [Array.getElem?_eq_none (by omega)]
        intro h
        cases h
    · by_cases hj : j < m
      · rw [q4 j hj]
        by_cases hjk : j < k
        · simp only [hjk, if_true]
          intro h
          cases h
        · simp only [hjk, if_false]
          intro h
          cases h
      · rw [Array.getElem?_eq_none (by omega)]
        intro h
        cases h
  refine ⟨((L.c3.set k x).set_other hne _ _).congr fun i hi => upto_set _ _ _ _ _, ((L.c4.set_other hne.symm _ _).set k _).congr fun i hi => ?_, fun i hi => ?_, (L.below.setCell g3 _).setCell g4 _⟩
  · rw [upto_set (fun i => Value.int .i64 (r i))]
    by_cases e : i = k
    · subst e; simp
    · simp only [e, if_false]
  · by_cases e : i = k
    · subst e
      simp only [if_true]
      exact cm _ (.inl hs) _ hs
    · simp only [e, if_false]
      exact cm _ (.inr ⟨i, by omega, L.same i (by omega)⟩) _ (L.same i (by omega))

end Go.Proofs.YtkncfhhiookgdacDoor
