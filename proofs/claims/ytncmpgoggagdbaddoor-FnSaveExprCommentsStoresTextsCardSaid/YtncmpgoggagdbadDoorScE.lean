import Derived.Test.YtncmpgoggagdbadDoorKit
import Derived.Test.YtncmpgoggagdbadDoorScD
namespace Go.Proofs.YtncmpgoggagdbadDoor
open Go.ChangeShapes Go.WideShapes Go.ChangeAt Go.RowKit
set_option linter.unusedVariables false
set_option maxRecDepth 100000
set_option maxHeartbeats 2000000

structure Fr (X : Nat → Prop) (w w' : World) : Prop where
  os : w'.os = w.os
  tape : w'.tape = w.tape
  output : w'.output = w.output
  size : w.heap.size ≤ w'.heap.size
  block : ∀ j, j < w.heap.size → ¬ X j → w'.heap[j]? = w.heap[j]?
theorem Fr.below {X : Nat → Prop} {w w' : World} {B : Nat} (h : Fr X w w') (hX : ∀ j, X j → B ≤ j) (hB : B ≤ w.heap.size) : Below B w w' :=
  ⟨h.os, h.tape, h.output, h.size, fun j hj => h.block j (by omega) (fun hx => by have := hX j hx; omega)⟩
theorem Fr.of_below {X : Nat → Prop} {w w' : World} (h : Below w.heap.size w w') : Fr X w w' := ⟨h.os, h.tape, h.output, h.size, fun j hj _ => h.block j hj⟩
theorem Fr.set {X : Nat → Prop} {w w' : World} (h : Fr X w w') {b o : Nat} {v : Value} (hb : X b ∨ w.heap.size ≤ b) : Fr X w (w'.setCell ⟨b, o, none⟩ v) :=
  ⟨h.os, h.tape, h.output, by simpa using h.size, fun j hj hx => by
    rw [Below.heap_setCell _ _ _ _ (fun e => by subst e; rcases hb with hb | hb; exact hx hb; omega)]
    exact h.block j hj hx⟩
theorem Fr.turned {X : Nat → Prop} {w w' w'' : World} {b : Nat} (h : Fr X w w') (g : Turned b w' w'') (hb : X b ∨ w.heap.size ≤ b) : Fr X w w'' :=
  ⟨g.os.trans h.os, g.tape.trans h.tape, g.output.trans h.output, by rw [g.size]; exact h.size, fun j hj hx => by
    rw [g.block j (fun e => by subst e; rcases hb with hb | hb; exact hx hb; omega)]
    exact h.block j hj hx⟩

def SvN (w : World) (e : Ending) (w' : World) : Prop := e = .returned (.agg #[.int .i32 0]) ∧ Below w.heap.size w w'
theorem save9_nil (p : Nat) (S : ByteArray) (rg : Value) (w : World) (h : PS w p S (.map none) rg) : Calls Tryd.prog 9 #[.pointer (some ⟨p, 0, none⟩)] w (SvN w) := by
  have hlt := h.lt
  obtain ⟨cs, hr, hc⟩ := h
  have c113 := hr.cellv hc.c113
  have c254 := hr.cellv hc.c254
  clear hr hc
  have hnil := fun (W : World) (r : Option Nat) => run_neq_map_nil W 29 28 30 r Tryd.underlying29
  go_enter Tryd.func9, Tryd.ntmps9
  go_wp2_with fail
  refine (loc10 p 201 _ (later c254 (by go_grown))).mono ?_
  rintro e w2 ⟨rfl, h2⟩
  have hs := h2.size
  simp only [World.size_alloc] at hs
  have B2 : Below w.heap.size w w2 := Below.trans (by go_grown) (h2.mono (by go_size))
  have r2 : RowAt w2 w.heap.size #[.int .i32 0] 28 := (RowAt.new _ _ _).below h2 (by go_size)
  have d113 := later c113 B2
  have e0 := r2.cellv (j := 0) (v := .int .i32 0) rfl
  have f0 := r2.frozen 0
  have hlt2 : w.heap.size < w2.heap.size := by omega
  have hp2 : p < w2.heap.size := by omega
  have HB := Lib.hid B2
  have HR2 := Lib.hid r2
  clear h2 B2 r2 c113 c254
  go_wp2_with fail
  have e3 := ((HR2.out.set 0 (.int .i32 0)).alloc (.cells #[.int .i32 0] 28)).cellv (j := 0) (v := .int .i32 0) rfl
  refine bodyPost_ret (v := .agg #[.int .i32 0]) (by simp only [results, Tryd.results9]; simp [go_sem, e3]) rfl ⟨rfl, by have hbx := HB.out; go_grown⟩
theorem save9_zero (p M c : Nat) (a : Option Addr) (S : ByteArray) (w : World) (h : PS w p S (.map (some M)) (.slice a 0 c)) : Calls Tryd.prog 9 #[.pointer (some ⟨p, 0, none⟩)] w (SvN w) := by
  have hlt := h.lt
  obtain ⟨cs, hr, hc⟩ := h
  have c113 := hr.cellv hc.c113
  have c202 := hr.cellv hc.c202
  have c254 := hr.cellv hc.c254
  clear hr hc
  have hnil := fun (W : World) (r : Option Nat) => run_neq_map_nil W 29 28 30 r Tryd.underlying29
  go_enter Tryd.func9, Tryd.ntmps9
  go_wp2_with fail
  refine (loc10 p 201 _ (later c254 (by go_grown))).mono ?_
  rintro e w2 ⟨rfl, h2⟩
  have hs := h2.size
  simp only [World.size_alloc] at hs
  have B2 : Below w.heap.size w w2 := Below.trans (by go_grown) (h2.mono (by go_size))
  have r2 : RowAt w2 w.heap.size #[.int .i32 0] 28 := (RowAt.new _ _ _).below h2 (by go_size)
  have d113 := later c113 B2
  have d202 := later c202 B2
  have e0 := r2.cellv (j := 0) (v := .int .i32 0) rfl
  have f0 := r2.frozen 0
  have hlt2 : w.heap.size < w2.heap.size := by omega
  have hp2 : p < w2.heap.size := by omega
  have HB := Lib.hid B2
  have HR2 := Lib.hid r2
  clear h2 B2 r2 c113 c202 c254
  go_wp2_with fail
  have e3 := ((HR2.out.set 0 (.int .i32 0)).alloc (.cells #[.int .i32 0] 28)).cellv (j := 0) (v := .int .i32 0) rfl
  refine bodyPost_ret (v := .agg #[.int .i32 0]) (by simp only [results, Tryd.results9]; simp [go_sem, e3]) rfl ⟨rfl, by have hbx := HB.out; go_grown⟩

end Go.Proofs.YtncmpgoggagdbadDoor
