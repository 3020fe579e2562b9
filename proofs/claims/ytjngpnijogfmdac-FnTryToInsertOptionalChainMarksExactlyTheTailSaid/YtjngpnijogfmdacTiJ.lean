import Derived.Test.YtjngpnijogfmdacKit
import Derived.Test.YtjngpnijogfmdacTiI
namespace Go.Proofs.Ytjngpnijogfmdac.fnTryToInsertOptionalChainMarksExactlyTheTail
open Go.ChangeShapes Go.WideShapes Go.ChangeAt Go.RowKit
set_option linter.unusedVariables false
set_option maxRecDepth 100000
set_option maxHeartbeats 2000000

def stp (z : Nat → Int) (nn : Nat) (S : Nat → ByteArray) (i : Nat) : St := if z i % 3 = 0 then .dot (nameOf nn S i) else if z i % 3 = 1 then .idx (nameOf nn S i) else .call
def Lk (f : Nat → St) (b : Nat → Nat) : Nat → List Nde
  | 0 => []
  | k + 1 => (f k, b k, 0) :: Lk f b k
theorem Lk_congr {f : Nat → St} {b b' : Nat → Nat} : ∀ {k : Nat}, (∀ i, i < k → b i = b' i) → Lk f b k = Lk f b' k
  | 0, _ => rfl
  | k + 1, h => by
    rw [Lk, Lk, h k (by omega), Lk_congr (fun i hi => h i (by omega))]
theorem Lk_clean (f : Nat → St) (b : Nat → Nat) : ∀ k, clean (Lk f b k)
  | 0 => trivial
  | k + 1 => ⟨rfl, Lk_clean f b k⟩
def colS : St → Nat
  | .dot _ => 0
  | .idx _ => 1
  | .call => 2
def nodeP (x : St) (u j : Nat) : Value := if j = colS x then .pointer (some ⟨u, 0, none⟩) else .pointer none
def up1 (b : Nat → Nat) (k u : Nat) : Nat → Nat := fun i => if i = k then u else b i

/-- A store into a row of another type leaves the chain. -/
theorem MC_setT {w : World} {r : Int} {ub g j : Nat} {y : Value} {ds : Array Value} {E : TypeId} (hg : RowAt w g ds E) (hE : E = 34 ∨ E = 46) {L : List Nde} (h : MC w r ub L) : MC (w.setCell ⟨g, j, none⟩ y) r ub L := by
  have hub : ub ≠ g := by
    have : ∀ {L : List Nde}, MC w r ub L → ∃ cs, RowAt w ub cs 51 := by
      intro L
      induction L with
      | nil => exact fun h => ⟨_, h⟩
      | cons x s ih => exact fun h => ih h.2.2.2
    obtain ⟨cs, hc⟩ := this h
    exact hc.diff hg (by rcases hE with rfl | rfl <;> decide)
  refine MC_set hg (by rcases hE with rfl | rfl <;> decide) (by rcases hE with rfl | rfl <;> decide) hub h (fun y hy => ?_)
  obtain ⟨cs, hc⟩ := MC_nodes h y hy
  exact hc.diff hg (by rcases hE with rfl | rfl <;> cases y.1 <;> simp [nodeT])

/-- What the building keeps behind k rounds. -/
structure Bld (w wr : World) (r : Int) (f : Nat → St) (c6 c8 R ub n k : Nat) (b : Nat → Nat) (T v : Nat) : Prop where
  r6 : RowAt wr c6 #[.nilIface, .int .i32 0] 34
  r8 : RowAt wr c8 #[.iface T (.pointer (some ⟨v, 0, none⟩)), .int .i32 0] 34
  nd : ∃ cs : Array Value, RowAt wr R cs 46 ∧ cs.size = n * 3 ∧ ∀ i, i < k → ∀ j, j < 3 → cs[i * 3 + j]? = some (nodeP (f i) (b i) j)
  mc : MC wr r ub (Lk f b k)
  hT : T = kindOf (Lk f b k)
  hv : v = blk ub (Lk f b k)
  ne : c6 ≠ c8
  ul : ub < wr.heap.size
  bl : Below w.heap.size w wr
  lo : ∀ i, i < k → w.heap.size ≤ b i
  g6 : w.heap.size ≤ c6
  g8 : w.heap.size ≤ c8
  gR : w.heap.size ≤ R

theorem Bld_step {w wr w2 Wf : World} {r : Int} {f : Nat → St} {c6 c8 R ub n k u : Nat} {b : Nat → Nat} {T v : Nat} (h : Bld w wr r f c6 c8 R ub n k b T v) (hk : k < n) (hb2 : Below wr.heap.size wr w2) (hu : w2.heap.size ≤ u)
    (hbf : Below (((((w2.setCell ⟨R, k * 3, none⟩ (nodeP (f k) u 0)).setCell ⟨R, k * 3 + 1, none⟩ (nodeP (f k) u 1)).setCell ⟨R, k * 3 + 2, none⟩ (nodeP (f k) u 2)).setCell ⟨c8, 0, none⟩ (.iface (kindS (f k)) (.pointer (some ⟨u, 0, none⟩)))).setCell ⟨c8, 1, none⟩ (.int .i32 0)).heap.size
      (((((w2.setCell ⟨R, k * 3, none⟩ (nodeP (f k) u 0)).setCell ⟨R, k * 3 + 1, none⟩ (nodeP (f k) u 1)).setCell ⟨R, k * 3 + 2, none⟩ (nodeP (f k) u 2)).setCell ⟨c8, 0, none⟩ (.iface (kindS (f k)) (.pointer (some ⟨u, 0, none⟩)))).setCell ⟨c8, 1, none⟩ (.int .i32 0)) Wf)
    (hrow : nodeRow Wf T v (f k, u, 0)) : Bld w Wf r f c6 c8 R ub n (k + 1) (up1 b k u) (kindS (f k)) u := by
  obtain ⟨r6, r8, ⟨cs, hr, hs, hx⟩, mc, hT, hv, ne, ul, bl, lo, g6, g8, gR⟩ := h
  have e6 := r6.below hb2 r6.lt
  have e8 := r8.below hb2 r8.lt
  have eR := hr.below hb2 hr.lt
  have hne6 : c6 ≠ R := r6.diff hr (by decide)
  have hne8 : c8 ≠ R := r8.diff hr (by decide)
  have m0 := MC_below hb2 mc
  have a1 := eR.set (k * 3) (nodeP (f k) u 0)
  have a2 := a1.set (k * 3 + 1) (nodeP (f k) u 1)
  have a3 := a2.set (k * 3 + 2) (nodeP (f k) u 2)
  have b3 := ((e8.set_other hne8 (k * 3) (nodeP (f k) u 0)).set_other hne8 (k * 3 + 1) (nodeP (f k) u 1)).set_other hne8 (k * 3 + 2) (nodeP (f k) u 2)
  have b4 := b3.set 0 (.iface (kindS (f k)) (.pointer (some ⟨u, 0, none⟩)))
  have b5 := b4.set 1 (.int .i32 0)
  have m1 := MC_setT (j := k * 3) (y := nodeP (f k) u 0) eR (.inr rfl) m0
  have m2 := MC_setT (j := k * 3 + 1) (y := nodeP (f k) u 1) a1 (.inr rfl) m1
  have m3 := MC_setT (j := k * 3 + 2) (y := nodeP (f k) u 2) a2 (.inr rfl) m2
  have m4 := MC_setT (j := 0) (y := .iface (kindS (f k)) (.pointer (some ⟨u, 0, none⟩))) b3 (.inl rfl) m3
  have m5 := MC_setT (j := 1) (y := .int .i32 0) b4 (.inl rfl) m4
  have d6 := ((((e6.set_other hne6 (k * 3) (nodeP (f k) u 0)).set_other hne6 (k * 3 + 1) (nodeP (f k) u 1)).set_other hne6 (k * 3 + 2) (nodeP (f k) u 2)).set_other ne 0 (.iface (kindS (f k)) (.pointer (some ⟨u, 0, none⟩)))).set_other ne 1 (.int .i32 0)
  have a5 := (a3.set_other (fun e => hne8 e.symm) 0 (.iface (kindS (f k)) (.pointer (some ⟨u, 0, none⟩)))).set_other (fun e => hne8 e.symm) 1 (.int .i32 0)
  have hL : Lk f (up1 b k u) k = Lk f b k := Lk_congr fun i hi => if_neg (by omega)
  have hbw : Below w.heap.size w (((((w2.setCell ⟨R, k * 3, none⟩ (nodeP (f k) u 0)).setCell ⟨R, k * 3 + 1, none⟩ (nodeP (f k) u 1)).setCell ⟨R, k * 3 + 2, none⟩ (nodeP (f k) u 2)).setCell ⟨c8, 0, none⟩ (.iface (kindS (f k)) (.pointer (some ⟨u, 0, none⟩)))).setCell ⟨c8, 1, none⟩ (.int .i32 0)) :=
    (((((bl.trans (hb2.mono bl.size)).setCell gR _).setCell gR _).setCell gR _).setCell g8 _).setCell g8 _
  have hsz : wr.heap.size ≤ u := Nat.le_trans hb2.size hu
  refine ⟨d6.below hbf d6.lt, b5.below hbf b5.lt, ⟨_, a5.below hbf a5.lt, by simp [hs], fun i hi j hj => ?_⟩, ?_, ?_, ?_, ne, ?_, hbw.trans (hbf.mono hbw.size), fun i hi => ?_, g6, g8, gR⟩
  · by_cases e : i = k
    · subst e
      have : up1 b i u i = u := if_pos rfl
      rw [this]
      have hj' : j = 0 ∨ j = 1 ∨ j = 2 := by omega
      rcases hj' with rfl | rfl | rfl
      · rw [Array.getElem?_setIfInBounds, if_neg (by omega), Array.getElem?_setIfInBounds, if_neg (by omega), Array.getElem?_setIfInBounds, if_pos (by omega), if_pos (by omega)]
      · rw [Array.getElem?_setIfInBounds, if_neg (by omega), Array.getElem?_setIfInBounds, if_pos (by omega), if_pos (by simp; omega)]
      · rw [Array.getElem?_setIfInBounds, if_pos (by omega), if_pos (by simp; omega)]
    · have : up1 b k u i = b i := if_neg e
      rw [this, Array.getElem?_setIfInBounds, if_neg (by omega), Array.getElem?_setIfInBounds, if_neg (by omega), Array.getElem?_setIfInBounds, if_neg (by omega)]
      exact hx i (by omega) j hj
  · rw [Lk, hL]
    have : up1 b k u k = u := if_pos rfl
    rw [this]
    refine ⟨?_, by show ub < u; omega, fun y hy => ?_, MC_below hbf m5⟩
    · rw [← hT, ← hv]
      exact hrow
    · obtain ⟨ds, hd⟩ := MC_nodes mc y hy
      have := hd.lt
      show y.2.1 < u
      omega
  · rw [Lk]
    rfl
  · rw [Lk]
    exact (if_pos rfl : up1 b k u k = u).symm
  · have h1 := hbf.size
    have h2 := hb2.size
    simp at h1
    omega
  · by_cases e : i = k
    · subst e
      have : up1 b i u i = u := if_pos rfl
      rw [this]
      have := bl.size
      omega
    · have : up1 b k u i = b i := if_neg e
      rw [this]
      exact lo i (by omega)

end Go.Proofs.Ytjngpnijogfmdac.fnTryToInsertOptionalChainMarksExactlyTheTail
