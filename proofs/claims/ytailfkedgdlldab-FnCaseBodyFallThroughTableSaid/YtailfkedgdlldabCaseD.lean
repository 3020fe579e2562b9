import Derived.Test.YtailfkedgdlldabKit
import Derived.Test.YtailfkedgdlldabCaseC
namespace Go.Proofs.Ytailfkedgdlldab.fnCaseBodyFallThroughTable
open Go.ChangeShapes Go.WideShapes Go.ChangeAt Go.RowKit
set_option linter.unusedVariables false
set_option maxRecDepth 100000
set_option maxHeartbeats 2000000

theorem add0 (g i : Nat) : (⟨g, 0, none⟩ : Addr).add i = ⟨g, i, none⟩ := by
  unfold Addr.add
  split
  · rename_i h; rw [h]
  · simp

theorem info68 : (Try.prog.info? 68).map (fun i => (i.zero, i.size, i.bytes)) = some (some (.slice none 0 0), 1, 24) := by kernel_rfl

/-- A copied row of codes, outside block R. -/
def CodesN (R : Nat) (w : World) (v : Value) (n : Nat) (z : List Int) : Prop :=
  (v = .slice none 0 0 ∧ n = 0) ∨ ∃ g, g ≠ R ∧ v = .slice (some ⟨g, 0, none⟩) n n ∧ ∀ i, i < n → w.cell? ⟨g, i, none⟩ = some (.int .u8 (z.getD i 0))

theorem CodesN.kept {R : Nat} {w w' : World} {v : Value} {n : Nat} {z : List Int} (h : CodesN R w v n z) (hk : ∀ b, b ≠ R → b < w.heap.size → w'.heap[b]? = w.heap[b]?) : CodesN R w' v n z := by
  rcases h with h | ⟨g, hg, e, h⟩
  · exact .inl h
  · exact .inr ⟨g, hg, e, fun i hi => by rw [World.cell?_of_block (w := w) (hk g hg (cell_lt (h i hi)))]; exact h i hi⟩

theorem CodesN.one {R : Nat} {w : World} {v : Value} {n : Nat} {z : List Int} (h : CodesN R w v n z) : v.oneCell' = true := by
  rcases h with ⟨rfl, _⟩ | ⟨g, hg, rfl, h⟩ <;> rfl

theorem CodesN.codes {R : Nat} {w : World} {v : Value} {n : Nat} {z : List Int} (h : CodesN R w v n z) : Codes w v n z := by
  rcases h with h | ⟨g, hg, e, h⟩
  · exact .inl h
  · refine .inr ⟨_, n, e, Nat.le_refl _, fun i hi => ?_⟩
    have e2 : (⟨g, 0, none⟩ : Addr).add i = ⟨g, i, none⟩ := add0 _ _
    rw [e2]
    exact h i hi

/-- The first k of the rows have been copied into block R. -/
def Copied (w : World) (R len k : Nat) (L : Nat → Nat) (Z : Nat → List Int) : Prop :=
  ∃ cs, RowAt w R cs 68 ∧ cs.size = len ∧ ∀ r, r < k → ∃ v, cs[r]? = some v ∧ CodesN R w v (L r) (Z r)

theorem Copied.step {w w1 : World} {R len k : Nat} {L : Nat → Nat} {Z : Nat → List Int} {v : Value} (h : Copied w R len k L Z) (hk : k < len) (hb : Below w.heap.size w w1) (hv : CodesN R w1 v (L k) (Z k)) :
    Copied (w1.setCell ⟨R, k, none⟩ v) R len (k + 1) L Z := by
  obtain ⟨cs, hr, hs, hx⟩ := h
  have hkept : ∀ b, b ≠ R → b < w1.heap.size → (w1.setCell ⟨R, k, none⟩ v).heap[b]? = w1.heap[b]? := fun b h1 _ => Below.heap_setCell _ _ _ _ h1
  refine ⟨_, (hr.below hb hr.lt).set k v, by simp [hs], fun r hr' => ?_⟩
  by_cases e : r = k
  · subst e
    exact ⟨v, by rw [Array.getElem?_setIfInBounds, if_pos rfl, if_pos (by omega)], hv.kept hkept⟩
  · obtain ⟨v', e1, e2⟩ := hx r (by omega)
    refine ⟨v', by rw [Array.getElem?_setIfInBounds, if_neg (by omega)]; exact e1, CodesN.kept (w := w1) (e2.kept (fun b _ hlt => hb.block b hlt)) hkept⟩

theorem Copied.below {w w' : World} {R len k : Nat} {L : Nat → Nat} {Z : Nat → List Int} (h : Copied w R len k L Z) (hb : ∀ b, b < w.heap.size → w'.heap[b]? = w.heap[b]?) : Copied w' R len k L Z := by
  obtain ⟨cs, hr, hs, hx⟩ := h
  refine ⟨cs, (hb R hr.lt).trans hr, hs, fun r hr' => ?_⟩
  obtain ⟨v', e1, e2⟩ := hx r hr'
  exact ⟨v', e1, e2.kept (fun b _ hlt => hb b hlt)⟩

/-- What the last level says. -/
def lastT (n : Nat) (z : List Int) : Bool := if n = 0 then true else through (z.getD (n - 1) 0)

/-- The statements of the last level say it. -/
theorem Made.last {w : World} {g n : Nat} {z : List Int} (hn : n ≤ 1048576) (h : Made w g g n z n) : ∃ k, FT (fun _ => False) k w (.slice (some ⟨g, 0, none⟩) n (n + 1)) (lastT n z) := by
  obtain ⟨xs, hown, hl⟩ := h
  cases n with
  | zero => exact ⟨0, .inl ⟨_, _, rfl, rfl⟩⟩
  | succ n =>
    obtain ⟨d, j, hd, hsd⟩ := hl (by omega)
    refine ⟨j, .inr ⟨_, n, _, d, rfl, by omega, id, ?_, hsd.weaken (fun _ h => h.elim)⟩⟩
    obtain ⟨cs, hr, hs, h1, h2, h3⟩ := RowAt.of_owns hown
    have e2 : (⟨g, 0, none⟩ : Addr).add (n * 2) = ⟨g, n * 2, none⟩ := add0 _ _
    rw [e2, hr.cell]
    rw [← h3, List.getElem?_take, if_pos (by omega)] at hd
    simpa using hd

/-- A block behind the statements of another level. -/
theorem Made.more {w w1 w2 w3 : World} {g b n : Nat} {z : List Int} {a : Option Addr} {m c : Nat} {T : Bool} {xs : List Value} {k : Nat} (hn : n ≤ 1048576) (hg : g = w.heap.size) (hft : FT (fun _ => False) k w (.slice a m c) T)
    (h1 : Below w.heap.size w w3) (hb : b ≠ g) (hc : w3.cell? ⟨b, 0, none⟩ = some (.slice a m c)) (hx : xs.length = n * 2)
    (hown : w3.ownsRow g 75 2 (.slice (some ⟨g, 0, none⟩) (n + 1) (n + 1)) (n + 1) (xs ++ [.iface 145 (.pointer (some ⟨b, 0, none⟩)), .int .i32 0])) :
    FT (fun _ => False) (k + 1) w3 (.slice (some ⟨g, 0, none⟩) (n + 1) (n + 1)) T := by
  obtain ⟨cs, hr, hs, h2, h3, h4⟩ := RowAt.of_owns hown
  refine .inr ⟨_, n, _, _, rfl, by omega, id, (?_ : _ = some (.iface 145 (.pointer (some ⟨b, 0, none⟩)))), b, .slice a m c, rfl, id, hc, ?_⟩
  · have e2 : (⟨g, 0, none⟩ : Addr).add (n * 2) = ⟨g, n * 2, none⟩ := add0 _ _
    rw [e2, hr.cell]
    have : (xs ++ [Value.iface 145 (.pointer (some ⟨b, 0, none⟩)), .int .i32 0])[n * 2]? = some (.iface 145 (.pointer (some ⟨b, 0, none⟩))) := by
      rw [List.getElem?_append_right (by omega), hx]
      simp
    rw [← h4, List.getElem?_take, if_pos (by omega)] at this
    simpa using this
  · exact hft.kept (fun b _ hlt => h1.block b hlt)

end Go.Proofs.Ytailfkedgdlldab.fnCaseBodyFallThroughTable
