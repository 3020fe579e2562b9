import Derived.Test.YtkncfhhiookgdacDoorKit
import Derived.Test.YtkncfhhiookgdacDoorRec
import Derived.Test.YtkncfhhiookgdacDoorCells
import Derived.Deep.AppendSrc
import Derived.Deep.Upon
namespace Go.Proofs.YtkncfhhiookgdacDoor
open Go.ChangeShapes Go.WideShapes Go.ChangeAt Go.RowKit
set_option linter.unusedVariables false
set_option maxRecDepth 100000
set_option maxHeartbeats 2000000

open Go.Extern
theorem row_ne {w : World} {a b : Nat} {cs ds : Array Value} {s t : TypeId} (h : RowAt w a cs s) (g : RowAt w b ds t) (hn : s ≠ t) : a ≠ b := by
  intro e
  subst e
  unfold RowAt at h g
  rw [h] at g
  injection g with g
  injection g with _ g
  exact hn g
def ptr (b : Nat) : Value := .pointer (some ⟨b, 0, none⟩)
def IsU (v : Value) : Prop := ∃ k : Int, v = .int .u16 k
def AllU (es : Array Value) : Prop := ∀ (j : Nat) (v : Value), es[j]? = some v → IsU v
/-- A slice of uint16s over a row of its own, or nil. -/
def UW (w : World) (b0 : Nat) (v : Value) (n : Nat) : Prop :=
  (v = .slice none 0 0 ∧ n = 0) ∨ ∃ g cap es, v = .slice (some ⟨g, 0, none⟩) n cap ∧ b0 ≤ g ∧ RowAt w g es 48 ∧ es.size = cap ∧ n ≤ cap ∧ AllU es
/-- The rows of uint16s stay such. -/
def K16 (w w' : World) : Prop := ∀ g es, RowAt w g es 48 → AllU es → ∃ es', RowAt w' g es' 48 ∧ es'.size = es.size ∧ AllU es'
/-- Rows of other types stay. -/
def KO (w w' : World) : Prop := ∀ g es t, RowAt w g es t → t ≠ 48 → RowAt w' g es t
theorem K16.trans {a b c : World} (h : K16 a b) (g : K16 b c) : K16 a c := fun x es r u => by
  obtain ⟨e1, r1, s1, u1⟩ := h x es r u
  obtain ⟨e2, r2, s2, u2⟩ := g x e1 r1 u1
  exact ⟨e2, r2, s2.trans s1, u2⟩
theorem KO.trans {a b c : World} (h : KO a b) (g : KO b c) : KO a c := fun x es t r ht => g x es t (h x es t r ht) ht
theorem K16.refl (w : World) : K16 w w := fun _ es r u => ⟨es, r, rfl, u⟩
theorem KO.refl (w : World) : KO w w := fun _ _ _ r _ => r
theorem K16.of_below {w w' : World} (h : Below w.heap.size w w') : K16 w w' := fun g es r u => ⟨es, r.below h r.lt, rfl, u⟩
theorem KO.of_below {w w' : World} (h : Below w.heap.size w w') : KO w w' := fun g es t r _ => r.below h r.lt
theorem UW.moved {w w' : World} {b0 n : Nat} {v : Value} (h : UW w b0 v n) (hk : K16 w w') : UW w' b0 v n := by
  rcases h with h | ⟨g, cap, es, rfl, h1, h2, h3, h4, h5⟩
  · exact .inl h
  · obtain ⟨es', r, s, u⟩ := hk g es h2 h5
    exact .inr ⟨g, cap, es', rfl, h1, r, by omega, h4, u⟩
theorem allU_set {es : Array Value} (h : AllU es) (o : Nat) {v : Value} (hv : IsU v) : AllU (es.setIfInBounds o v) := fun j x hx => by
  rw [Array.getElem?_setIfInBounds] at hx
  by_cases e : o = j
  · subst e
    by_cases hb : o < es.size
    · simp [hb] at hx; rw [← hx]; exact hv
    · simp [hb] at hx
  · rw [if_neg e] at hx
    exact h j x hx
theorem K16.set {w : World} {g : Nat} {es : Array Value} (h : RowAt w g es 48) (o : Nat) {v : Value} (hv : IsU v) : K16 w (w.setCell ⟨g, o, none⟩ v) := fun x ds r u => by
  by_cases e : x = g
  · subst e
    exact ⟨_, r.set o v, by simp, allU_set u o hv⟩
  · exact ⟨ds, r.set_other e o v, rfl, u⟩
theorem KO.set {w : World} {g : Nat} {es : Array Value} (h : RowAt w g es 48) (o : Nat) (v : Value) : KO w (w.setCell ⟨g, o, none⟩ v) := fun x ds t r ht => r.set_other (row_ne r h ht) o v
theorem setsU {b0 g : Nat} (hb : b0 ≤ g) : ∀ (vs : List Value) (o : Nat) (w : World) (es : Array Value), RowAt w g es 48 → (∀ v ∈ vs, IsU v) → K16 w (w.setCells g o vs) ∧ KO w (w.setCells g o vs) ∧ Below b0 w (w.setCells g o vs) ∧ (∃ es', RowAt (w.setCells g o vs) g es' 48 ∧ es'.size = es.size ∧ (AllU es → AllU es'))
  | [], o, w, es, r, _ => ⟨K16.refl _, KO.refl _, Below.refl _ _, es, r, rfl, fun h => h⟩
  | v :: vs, o, w, es, r, hv => by
    have hv0 := hv v (by simp)
    obtain ⟨a1, a2, a3, es', a4, a5, a6⟩ := setsU hb vs (o + 1) (w.setCell ⟨g, o, none⟩ v) (es.setIfInBounds o v) (r.set o v) (fun x hx => hv x (by simp [hx]))
    exact ⟨(K16.set r o hv0).trans a1, (KO.set r o v).trans a2, ((Below.refl _ _).setCell hb v).trans a3, es', a4, by rw [a5]; simp, fun h => a6 (allU_set h o hv0)⟩
theorem allU_list {l : List Value} (h : ∀ v ∈ l, IsU v) : AllU l.toArray := fun j v hv => h v (by
  have : l[j]? = some v := by simpa using hv
  exact List.mem_of_getElem? this)
theorem allU_append {a b : Array Value} (h : AllU a) (g : AllU b) : AllU (a ++ b) := fun j v hv => by
  rw [Array.getElem?_append] at hv
  split at hv
  · exact h j v hv
  · exact g _ v hv
theorem allU_zero (n : Nat) : AllU (Builtin.zeroCells #[.int .u16 0] n) := fun j v hv => by
  unfold Builtin.zeroCells at hv
  simp at hv
  obtain ⟨_, _, h⟩ := hv
  refine ⟨0, ?_⟩
  rw [← h, Nat.mod_one]
  rfl
/-- A slice's first n cells. -/
theorem UW.list {w : World} {b0 n : Nat} {v : Value} (h : UW w b0 v n) : ∃ l : List Value, l.length = n ∧ (∀ x ∈ l, IsU x) ∧ (v = .slice none 0 0 ∧ n = 0 ∧ l = [] ∨ ∃ g cap es, v = .slice (some ⟨g, 0, none⟩) n cap ∧ b0 ≤ g ∧ RowAt w g es 48 ∧ es.size = cap ∧ n ≤ cap ∧ AllU es ∧ l = es.toList.take n) := by
  rcases h with ⟨rfl, rfl⟩ | ⟨g, cap, es, rfl, h1, h2, h3, h4, h5⟩
  · exact ⟨[], rfl, (fun x hx => by cases hx), .inl ⟨rfl, rfl, rfl⟩⟩
  · refine ⟨es.toList.take n, by simp; omega, fun x hx => ?_, .inr ⟨g, cap, es, rfl, h1, h2, h3, h4, h5, rfl⟩⟩
    have hm := List.mem_of_mem_take hx
    obtain ⟨j, hj⟩ := List.getElem?_of_mem hm
    exact h5 j x (by simpa using hj)
theorem row_take {w : World} {g n : Nat} {es : Array Value} (r : RowAt w g es 48) : ∀ j u, (es.toList.take n)[j]? = some u → w.cell? ((⟨g, 0, none⟩ : Addr).add j) = some u := fun j u hu => by
  have e : (⟨g, 0, none⟩ : Addr).add j = ⟨g, j, none⟩ := by cases j <;> simp [Addr.add]
  rw [e]
  refine r.cellv ?_
  rw [List.getElem?_take] at hu
  split at hu
  · simpa using hu
  · cases hu
theorem info48 : (Tryd.prog.info? 48).map (fun i => (i.zero, i.size, i.bytes)) = some (some (.int .u16 0), 1, 2) := by kernel_rfl
theorem isU_one {v : Value} (h : IsU v) : v.oneCell' = true := by obtain ⟨k, rfl⟩ := h; rfl
/-- append(v, x...). -/
theorem app (b0 n m : Nat) (v x : Value) (w : World) (hv : UW w b0 v n) (hx : UW w b0 x m) (hb : n + m ≤ 1099511627776) (h0 : b0 ≤ w.heap.size) :
    ∃ v' w', (Builtin.append_ #[22, 22] 22 #[v, x]).run Tryd.prog w = .ok v' w' ∧ UW w' b0 v' (n + m) ∧ K16 w w' ∧ KO w w' ∧ Below b0 w w' := by
  obtain ⟨i, hi, hz, hs, hby⟩ := info_parts info48
  obtain ⟨lv, lv1, lv2, hlv⟩ := hv.list
  obtain ⟨lx, lx1, lx2, hlx⟩ := hx.list
  have src : Src Tryd.prog i.size 22 x m lx w := by
    rw [hs]
    rcases hlx with ⟨rfl, rfl, rfl⟩ | ⟨g, cap, es, rfl, g1, g2, g3, g4, g5, rfl⟩
    · exact Src.ofNil w Tryd.underlying22 0
    · exact Src.ofSlice w Tryd.underlying22 _ m cap _ (by omega) (row_take g2) (fun u hu => isU_one (lx2 u hu))
  have grow : ∀ (base : Option Addr) (cap : Nat), v = .slice base n cap → n ≤ cap → cap < n + m → (Builtin.firstCells i.size n (.slice base n cap)).run Tryd.prog w.drew = .ok lv.toArray w.drew →
      ∃ v' w', (Builtin.append_ #[22, 22] 22 #[v, x]).run Tryd.prog w = .ok v' w' ∧ UW w' b0 v' (n + m) ∧ K16 w w' ∧ KO w w' ∧ Below b0 w w' := by
    intro base cap e hc hg hold
    subst e
    have hr := run_append_grow_src (P := Tryd.prog) w 22 22 22 48 i _ Tryd.underlying22 hi hz base n cap lv hold x m lx src hg (by omega) (growslice_fits hg (by rw [hby]; omega))
    have hge := grownCap_ge w (n + m) cap 48
    have hbl : ∀ o, Below w.heap.size w (w.drew.alloc o) := fun o => Below.alloc (w := w.drew) (Below.refl _ _).drew (Nat.le_refl _) o
    refine ⟨_, _, hr, .inr ⟨w.heap.size, _, _, rfl, h0, RowAt.new w.drew _ 48, ?_, hge, ?_⟩, K16.of_below (hbl _), KO.of_below (hbl _), (hbl _).mono h0⟩
    · simp [size_zeroCells, lv1, lx1]
      have : (Value.int IntKind.u16 0).cells.size = 1 := rfl
      rw [this]
      omega
    · exact allU_append (allU_list (fun u hu => by
        rcases List.mem_append.1 hu with h | h
        · exact lv2 u h
        · exact lx2 u h)) (allU_zero _)
  rcases hlv with ⟨rfl, rfl, rfl⟩ | ⟨g, cap, es, rfl, g1, g2, g3, g4, g5, rfl⟩
  · by_cases hm : m = 0
    · subst hm
      have e : lx = [] := List.eq_nil_of_length_eq_zero lx1
      subst e
      exact ⟨_, w, run_append_nothing w 22 22 22 48 i Tryd.underlying22 hi none 0 0 (Nat.le_refl _) x src, .inl ⟨rfl, rfl⟩, K16.refl _, KO.refl _, Below.refl _ _⟩
    · exact grow none 0 rfl (Nat.le_refl _) (by omega) (by rw [hs]; exact run_firstCells_none _ 1 0 0 0)
  · by_cases hroom : n + m ≤ cap
    · have hr := run_append_room_src (P := Tryd.prog) w 22 22 22 48 i Tryd.underlying22 hi g 0 n cap x m lx src hroom (fun j hj => by
        rw [hs, g2.cell]
        have : 0 + n * 1 + j < es.size := by omega
        simp at this ⊢
        exact this) (fun j hj => g2.frozen _)
      obtain ⟨a1, a2, a3, es', a4, a5, a6⟩ := setsU g1 lx (0 + n * i.size) w es g2 lx2
      exact ⟨_, _, hr, .inr ⟨g, cap, es', rfl, g1, a4, by omega, hroom, a6 g5⟩, a1, a2, a3⟩
    · exact grow _ cap rfl g4 (by omega) (by rw [hs]; exact run_firstCells_some _ 1 n _ n cap _ (by omega) (row_take (w := w.drew) g2))

end Go.Proofs.YtkncfhhiookgdacDoor
