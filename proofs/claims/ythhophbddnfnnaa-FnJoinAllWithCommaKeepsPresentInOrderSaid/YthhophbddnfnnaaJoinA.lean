import Derived.Test.YthhophbddnfnnaaKit
import Derived.Test.YthhophbddnfnnaaRow
import Derived.Test.YthhophbddnfnnaaAs
namespace Go.Proofs.Ythhophbddnfnnaa.fnJoinAllWithCommaKeepsPresentInOrder
open Go.ChangeShapes Go.WideShapes Go.ChangeAt Go.RowKit
set_option linter.unusedVariables false
set_option maxRecDepth 100000
set_option maxHeartbeats 2000000

theorem add0 (g i : Nat) : (⟨g, 0, none⟩ : Addr).add i = ⟨g, i, none⟩ := by
  unfold Addr.add
  split
  · rename_i h; rw [h]
  · simp

theorem grown_of_below {w w' : World} (h : Below w.heap.size w w') : w.grownBy w' none := ⟨h.os, h.tape, h.output, h.size, fun k hk _ => h.block k hk⟩

theorem RowAt.newAt {W : World} {b : Nat} {cs : Array Value} {t : TypeId} (hb : b = W.heap.size) : RowAt (W.alloc (.cells cs t)) b cs t := by
  subst hb
  exact RowAt.new _ _ _

/-- The data of the number literal of index i. -/
def num (P : Nat → Nat) (i : Nat) : Value := .iface 47 (.pointer (some ⟨P i, 0, none⟩))

/-- The chain of the literals of the indices is (the last one first), no block of X being looked at. -/
def Chain (X : Nat → Prop) (w : World) (P : Nat → Nat) : List Nat → Value → Value → Prop
  | [], d, _ => d = .nilIface
  | [i], d, l => d = num P i ∧ l = .int .i32 i
  | i :: j :: r, d, l => ∃ b d', d = .iface 50 (.pointer (some ⟨b, 0, none⟩)) ∧ ¬ X b ∧ w.cell? ⟨b, 0, none⟩ = some d' ∧ w.cell? ⟨b, 1, none⟩ = some l ∧ w.cell? ⟨b, 2, none⟩ = some (num P i) ∧
      w.cell? ⟨b, 3, none⟩ = some (.int .i32 i) ∧ w.cell? ⟨b, 4, none⟩ = some (.int .u8 36) ∧ Chain X w P (j :: r) d' l

theorem Chain.kept {X : Nat → Prop} {w w' : World} {P Q : Nat → Nat} (hk : ∀ b, ¬ X b → b < w.heap.size → w'.heap[b]? = w.heap[b]?) : ∀ {is : List Nat} {d l : Value}, (∀ i ∈ is, P i = Q i) → Chain X w P is d l → Chain X w' Q is d l
  | [], _, _, _, h => h
  | [i], _, _, hP, h => by
    unfold Chain num at *
    rw [← hP i (by simp)]
    exact h
  | i :: j :: r, d, l, hP, h => by
    obtain ⟨b, d', e, hX, h0, h1, h2, h3, h4, h⟩ := h
    have hc : ∀ o, w'.cell? ⟨b, o, none⟩ = w.cell? ⟨b, o, none⟩ := fun o => World.cell?_of_block (w := w) (hk b hX (cell_lt h0))
    refine ⟨b, d', e, hX, by rw [hc]; exact h0, by rw [hc]; exact h1, ?_, by rw [hc]; exact h3, by rw [hc]; exact h4, Chain.kept hk (fun x hx => hP x (by simp at hx ⊢; exact .inr hx)) h⟩
    rw [hc, h2]
    unfold num
    rw [hP i (by simp)]

theorem Chain.weaken {X Y : Nat → Prop} {w : World} {P : Nat → Nat} (hs : ∀ b, Y b → X b) : ∀ {is : List Nat} {d l : Value}, Chain X w P is d l → Chain Y w P is d l
  | [], _, _, h => h
  | [i], _, _, h => h
  | i :: j :: r, d, l, h => by
    obtain ⟨b, d', e, hX, h0, h1, h2, h3, h4, h⟩ := h
    exact ⟨b, d', e, fun hy => hX (hs _ hy), h0, h1, h2, h3, h4, Chain.weaken hs h⟩

theorem Chain.one {X : Nat → Prop} {w : World} {P : Nat → Nat} : ∀ {is : List Nat} {d l : Value}, Chain X w P is d l → d.oneCell' = true
  | [], _, _, h => by cases h; rfl
  | [i], _, _, h => by obtain ⟨rfl, _⟩ := h; rfl
  | i :: j :: r, d, l, h => by obtain ⟨b, d', rfl, _⟩ := h; rfl

theorem Chain.isIface {X : Nat → Prop} {w : World} {P : Nat → Nat} : ∀ {is : List Nat} {d l : Value}, is ≠ [] → Chain X w P is d l → ∃ T v, d = .iface T v
  | [], _, _, h0, _ => absurd rfl h0
  | [i], _, _, _, h => by obtain ⟨rfl, _⟩ := h; exact ⟨_, _, rfl⟩
  | i :: j :: r, d, l, _, h => by obtain ⟨b, d', rfl, _⟩ := h; exact ⟨_, _, rfl⟩

theorem Chain.loc {X : Nat → Prop} {w : World} {P : Nat → Nat} : ∀ {is : List Nat} {d l : Value} {i : Nat}, is.getLast? = some i → Chain X w P is d l → l = .int .i32 i
  | [], _, _, _, h, _ => by simp at h
  | [i], _, _, _, h, hc => by
    obtain ⟨_, rfl⟩ := hc
    simp at h
    rw [h]
  | i :: j :: r, d, l, x, h, hc => by
    obtain ⟨b, d', _, _, _, _, _, _, _, hc⟩ := hc
    exact Chain.loc (by rw [List.getLast?_cons_cons] at h; exact h) hc

theorem join_left (l1 : Int) (d2 l2 : Value) (w : World) (h2 : d2.oneCell' = true) (hl2 : ∃ k, l2 = .int .i32 k) : Calls Try.prog 29 #[.agg #[.nilIface, .int .i32 l1], .agg #[d2, l2]] w fun e w' => e = .returned (.agg #[d2, l2]) ∧ Below w.heap.size w w' := by
  obtain ⟨k, rfl⟩ := hl2
  have hst := fun (A : Addr) (W : World) (m : Mode) => run_store Try.prog W A d2 m h2
  go_enter Try.func29, Try.ntmps29
  go_wp2
  go_returns
  exact ⟨rfl, by go_grown⟩

theorem join_right (T : TypeId) (v : Value) (l1 l2 : Int) (w : World) : Calls Try.prog 29 #[.agg #[.iface T v, .int .i32 l1], .agg #[.nilIface, .int .i32 l2]] w fun e w' => e = .returned (.agg #[.iface T v, .int .i32 l1]) ∧ Below w.heap.size w w' := by
  go_enter Try.func29, Try.ntmps29
  go_wp2
  go_returns
  exact ⟨rfl, by go_grown⟩

theorem join_both (T U : TypeId) (v u : Value) (l1 l2 : Int) (w : World) : Calls Try.prog 29 #[.agg #[.iface T v, .int .i32 l1], .agg #[.iface U u, .int .i32 l2]] w fun e w' => ∃ b, e = .returned (.agg #[.iface 50 (.pointer (some ⟨b, 0, none⟩)), .int .i32 l1]) ∧ w.heap.size ≤ b ∧
    RowAt w' b #[.iface T v, .int .i32 l1, .iface U u, .int .i32 l2, .int .u8 36, .bool false] 53 ∧ Below w.heap.size w w' := by
  go_enter Try.func29, Try.ntmps29
  go_wp2
  go_returns
  refine ⟨_, rfl, ?_, ?_, by go_grown⟩
  · omega
  · exact RowAt.newAt (by go_size)

end Go.Proofs.Ythhophbddnfnnaa.fnJoinAllWithCommaKeepsPresentInOrder
