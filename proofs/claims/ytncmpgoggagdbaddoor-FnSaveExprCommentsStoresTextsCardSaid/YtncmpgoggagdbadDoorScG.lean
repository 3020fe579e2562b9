import Derived.Test.YtncmpgoggagdbadDoorKit
import Derived.Test.YtncmpgoggagdbadDoorScF
namespace Go.Proofs.YtncmpgoggagdbadDoor
open Go.ChangeShapes Go.WideShapes Go.ChangeAt Go.RowKit
set_option linter.unusedVariables false
set_option maxRecDepth 100000
set_option maxHeartbeats 2000000

theorem wpList_putN {P : Program} {w : World} {S : Value → Prop} {ops : Array Oper} {rest : List Oper} {o : Oper} {a : Act} {Q : Exit → Act → World → Prop} (hg : o.guard = none) (m x y : Operand) (t : TypeId) (hop : o.op = Op.mapUpdate t m x y)
    (k e : TypeId) (K : KeysLike P k S) (ht : P.underlying t = some (.map k e)) (b n n' : Nat) (F : Value → Option Value) (hm : a.eval m = .map (some b)) (h : MapIs w b S F n) (v u : Value) (hx : a.eval x = v) (hy : a.eval y = u) (hv : S v) (hn : (if (F v).isSome then n else n + 1) = n')
    (hK : ∀ w', MapIs w' b S (putF F v u) n' → Turned b w w' → wpList P ops Q rest (a.put o.dst undef) w') : wpList P ops Q (o :: rest) a w :=
  wpList_put hg m x y t hop k e K ht b n F hm h v u hx hy hv fun w' h1 h2 => hK w' (hn ▸ h1) h2
theorem PS.alloc {w : World} {p : Nat} {S : ByteArray} {m rg : Value} (h : PS w p S m rg) (o : Obj) : PS (w.alloc o) p S m rg := h.kept (Below.heap_alloc _ _ _ h.lt)
theorem call7N (p : Nat) (w : World) (h9 : Calls Tryd.prog 9 #[.pointer (some ⟨p, 0, none⟩)] (w.alloc (.cells #[.int .i32 0] 28)) (SvN (w.alloc (.cells #[.int .i32 0] 28)))) : Calls Tryd.prog 7 #[.pointer (some ⟨p, 0, none⟩)] w (SvN w) := by
  have r0 : RowAt (w.alloc (.cells #[.int .i32 0] 28)) w.heap.size #[.int .i32 0] 28 := RowAt.new _ _ _
  refine (call7 _ w _ h9 fun e w' ⟨he, hb⟩ => ?_).mono ?_
  · have r1 := r0.below hb r0.lt
    exact ⟨he, r1.cellv rfl, r1.frozen 0, r1.lt⟩
  · rintro e w' ⟨w1, ⟨_, hb⟩, rfl, rfl⟩
    exact ⟨rfl, (((Below.refl _ _).alloc (Nat.le_refl _) _).trans (hb.mono (by simp))).setCell (Nat.le_refl _) _⟩
theorem call7Y (p M R n k : Nat) (S : ByteArray) (s l : Nat → Nat) (F : Value → Option Value) (w : World) (hp : p < w.heap.size) (hM : M < w.heap.size)
    (h9 : Calls Tryd.prog 9 #[.pointer (some ⟨p, 0, none⟩)] (w.alloc (.cells #[.int .i32 0] 28)) (SvY p M R n k S s l F (w.alloc (.cells #[.int .i32 0] 28)))) : Calls Tryd.prog 7 #[.pointer (some ⟨p, 0, none⟩)] w (SvY p M R n k S s l F w) := by
  have r0 : RowAt (w.alloc (.cells #[.int .i32 0] 28)) w.heap.size #[.int .i32 0] 28 := RowAt.new _ _ _
  have rr : ∀ w', Fr (fun j => j = p ∨ j = M) (w.alloc (.cells #[.int .i32 0] 28)) w' → RowAt w' w.heap.size #[.int .i32 0] 28 := fun w' hf => (hf.block _ r0.lt (fun h => by omega)).trans r0
  refine (call7 _ w _ h9 fun e w' ⟨C, he, _, _, _, hf⟩ => ?_).mono ?_
  · have r1 := rr w' hf
    exact ⟨he, r1.cellv rfl, r1.frozen 0, r1.lt⟩
  · rintro e w' ⟨w1, ⟨C, _, h1, h2, h3, hf⟩, rfl, rfl⟩
    have r1 := rr w1 hf
    have hC : C ≠ w.heap.size := by
      obtain ⟨cs, hr, _⟩ := h2
      exact hr.diff r1 (by decide)
    refine ⟨C, rfl, h1.setOther (by omega) _, h2.kept (Below.heap_setCell _ _ _ _ hC), h3.kept (Below.heap_setCell _ _ _ _ (by show p ≠ w.heap.size; omega)), ?_⟩
    have f1 : Fr (fun j => j = p ∨ j = M) w w1 := ⟨hf.os, hf.tape, hf.output, by have := hf.size; simp at this; omega, fun j hj hx => (hf.block j (by simp; omega) hx).trans (Below.heap_alloc _ _ _ hj)⟩
    exact f1.set (.inr (Nat.le_refl _))
def k7 : Value := .agg #[.int .i32 7]
theorem kne : k7 ≠ k0 := by
  unfold k7 k0
  simp
def sK : ByteArray := ⟨#[107, 101, 101, 112]⟩
def sO : ByteArray := ⟨#[111, 108, 100]⟩

end Go.Proofs.YtncmpgoggagdbadDoor
