import Derived.Test.YtkncfhhiookgdaaDoorKit
import Derived.Test.YtkncfhhiookgdaaDoorSnB
namespace Go.Proofs.YtkncfhhiookgdaaDoor
open Go.ChangeShapes Go.WideShapes Go.ChangeAt Go.RowKit
set_option linter.unusedVariables false
set_option maxRecDepth 100000
set_option maxHeartbeats 2000000

open Go.Extern
noncomputable def A194 (sl cu mo pa mp : Value) (ww : Bool) (w : World) : Array Value := match (Instr.build 194 #[(9, sl), (7, cu), (58, mo), (8, pa), (20, mp), (110, .bool ww)]).run Tryd.prog w with | .ok (.agg c) _ => c | _ => #[]
theorem build194k (g : Nat) (c m q M : Nat) (ww : Bool) (w : World) : (Instr.build 194 #[(9, .slice (some ⟨g, 0, none⟩) 0 0), (7, ptr c), (58, ptr m), (8, ptr q), (20, .map (some M)), (110, .bool ww)]).run Tryd.prog w = .ok (.agg (A194 (.slice (some ⟨g, 0, none⟩) 0 0) (ptr c) (ptr m) (ptr q) (.map (some M)) ww w)) w := by kernel_rfl
theorem a194 (g : Nat) (c m q M : Nat) (ww : Bool) (w : World) : (A194 (.slice (some ⟨g, 0, none⟩) 0 0) (ptr c) (ptr m) (ptr q) (.map (some M)) ww w)[106]? = some (.slice (some ⟨g, 0, none⟩) 0 0) ∧ (A194 (.slice (some ⟨g, 0, none⟩) 0 0) (ptr c) (ptr m) (ptr q) (.map (some M)) ww w)[104]? = some (ptr c) ∧ (A194 (.slice (some ⟨g, 0, none⟩) 0 0) (ptr c) (ptr m) (ptr q) (.map (some M)) ww w)[352]? = some (.bool ww) ∧
    (A194 (.slice (some ⟨g, 0, none⟩) 0 0) (ptr c) (ptr m) (ptr q) (.map (some M)) ww w)[66]? = some (.int .u32 0) ∧ (A194 (.slice (some ⟨g, 0, none⟩) 0 0) (ptr c) (ptr m) (ptr q) (.map (some M)) ww w)[32]? = some (.bool false) ∧ (A194 (.slice (some ⟨g, 0, none⟩) 0 0) (ptr c) (ptr m) (ptr q) (.map (some M)) ww w)[23]? = some (.int .u64 0) ∧
    (A194 (.slice (some ⟨g, 0, none⟩) 0 0) (ptr c) (ptr m) (ptr q) (.map (some M)) ww w)[34]? = some (.int .u8 0) ∧ (A194 (.slice (some ⟨g, 0, none⟩) 0 0) (ptr c) (ptr m) (ptr q) (.map (some M)) ww w)[41]? = some (.bool false) :=
  ⟨by kernel_rfl, by kernel_rfl, by kernel_rfl, by kernel_rfl, by kernel_rfl, by kernel_rfl, by kernel_rfl, by kernel_rfl⟩
theorem own_mono {w : World} {B B' n size : Nat} {e : TypeId} {v : Value} {xs : List Value} (h : w.ownsRow B e size v n xs) (hb : B' ≤ B) : w.ownsRow B' e size v n xs := by
  refine ⟨h.1, ?_⟩
  rcases h.2 with h | ⟨g, cap, cur, a, b, c⟩
  · exact .inl h
  · exact .inr ⟨g, cap, cur, a, by omega, c⟩
def NewPar (cu : Nat) (f md : Int) (mi ww : Bool) (w : World) (e : Ending) (w' : World) : Prop := ∃ p, e = .returned (ptr p) ∧ PS w' w.heap.size p cu f md mi ww 0 ∧ w.heap.size ≤ p ∧ Below w.heap.size w w'
set_option maxHeartbeats 4000000 in
theorem new15 (cu mo : Nat) (f md : Int) (mi ww : Bool) (w : World) : Calls Tryd.prog 15 #[.int .u32 0, .int .i64 0, .int .u64 f, .int .u8 md, .bool mi, .bool ww, ptr cu, ptr mo] w (NewPar cu f md mi ww w) := by
  obtain ⟨i0, hi, hz0, hz1, hz2⟩ := info_parts info229
  have hmm := @run_makeMap Tryd.prog
  go_enter Tryd.func15, Tryd.ntmps15
  go_wp2_with (at_make; refine wpList_make_full _ rfl _ _ 138 rfl w.heap.size 229 i0 _ 10 Tryd.underlying138 hi hz0 hz1 .i64 .i64 _ _ 0 rfl rfl rfl rfl (by rw [hz2]; omega) (by unfold maxLen; omega) (Nat.le_refl _) ?_)
  intro w1 hown hgrow
  have b1 : Below w.heap.size w w1 := (Below.refl _ _).grown hgrow (Nat.le_refl _) (fun k hk => by cases hk)
  obtain ⟨g, hg⟩ : ∃ g, g = w.heap.size := ⟨_, rfl⟩
  rw [← hg] at hown ⊢
  have H1 := Lib.hid (And.intro hown (And.intro b1 hg))
  have l1 := b1.size
  clear hown hgrow b1 hg
  go_upto_region 2 with (refine wpList_build rfl 194 _ rfl #[(9, .slice (some ⟨g, 0, none⟩) 0 0), (7, ptr cu), (58, ptr mo), (8, ptr (w1.heap.size + 1)), (20, .map (some (w1.heap.size + 1 + 1))), (110, .bool ww)] (by simp [Act.eval, Act.put, ptr]) _ (build194k g cu mo (w1.heap.size + 1) (w1.heap.size + 1 + 1) ww _) ?_)
  obtain ⟨X, hX⟩ : ∃ X, ((w1.alloc (Obj.map #[] 0)).alloc (Obj.cells #[Value.slice none 0 0, Value.slice none 0 0, Value.slice none 0 0, Value.slice none 0 0, Value.map (some w1.heap.size), Value.map none, Value.map none, Value.slice none 0 0, Value.bool false, Value.bool false, Value.bool false] 201)).alloc (Obj.map #[] 0) = X := ⟨_, rfl⟩
  have zX : X.heap.size = w1.heap.size + 1 + 1 + 1 := by rw [← hX]; simp
  have bX : Below w1.heap.size w1 X := hX ▸ (((Below.refl w1.heap.size w1).alloc (Nat.le_refl _) _).alloc (by simp) _).alloc (by simp; omega) _
  rw [hX, ← zX]
  clear hX
  obtain ⟨c106, c104, c352, c66, c32, c23, c34, c41⟩ := a194 g cu mo (w1.heap.size + 1) (w1.heap.size + 1 + 1) ww X
  generalize A194 (.slice (some ⟨g, 0, none⟩) 0 0) (ptr cu) (ptr mo) (ptr (w1.heap.size + 1)) (.map (some (w1.heap.size + 1 + 1))) ww X = C at c106 c104 c352 c66 c32 c23 c34 c41 ⊢
  have r0 := RowAt.new X C 194
  have b0 : Below w.heap.size w (X.alloc (.cells C 194)) := (H1.out.2.1.trans (bX.mono l1)).alloc (by omega) _
  have o0 : (X.alloc (.cells C 194)).ownsRow w.heap.size 229 10 (.slice (some ⟨g, 0, none⟩) 0 0) 0 [] := own_kept (own_kept (own_mono (B := g) (by have := H1.out.1; simpa [madeCells] using this) (by have := H1.out.2.2; omega)) fun j hj => by
    obtain ⟨⟨es, e1⟩, _⟩ := own_row H1.out.1 hj
    exact bX.block j e1.lt) fun j hj => by
    obtain ⟨⟨es, e1⟩, _⟩ := own_row H1.out.1 hj
    exact Below.heap_alloc _ _ _ (e1.below bX e1.lt).lt
  obtain ⟨p, hp⟩ : ∃ p, p = X.heap.size := ⟨_, rfl⟩
  have hwp : w.heap.size ≤ p := by omega
  rw [← hp] at r0 ⊢
  clear hp zX bX
  generalize X.alloc (.cells C 194) = W at r0 b0 o0 ⊢
  have p66 := r0.cellv c66
  have p23 := r0.cellv c23
  have p34 := r0.cellv c34
  have p41 := r0.cellv c41
  have g66 := r0.frozen 66
  have g23 := r0.frozen 23
  have g34 := r0.frozen 34
  have g41 := r0.frozen 41
  have lp := r0.lt
  have HE := Lib.hid (And.intro r0 (And.intro b0 o0))
  have HC := Lib.hid (And.intro c106 (And.intro c104 (And.intro c352 (And.intro c66 (And.intro c32 (And.intro c23 (And.intro c34 c41)))))))
  have HW := Lib.hid hwp
  clear r0 b0 o0 c106 c104 c352 c66 c32 c23 c34 c41 hwp H1 l1 hmm
  go_wp2_with fail
  go_ret
  obtain ⟨c106, c104, c352, c66, c32, c23, c34, c41⟩ := HC.out
  have q := HE.out.1
  have hno : ∀ {v : World} {cs : Array Value} {j : Nat} {u : Value}, RowAt v p cs 194 → v.ownsRow w.heap.size 229 10 (.slice (some ⟨g, 0, none⟩) 0 0) 0 [] → (v.setCell ⟨p, j, none⟩ u).ownsRow w.heap.size 229 10 (.slice (some ⟨g, 0, none⟩) 0 0) 0 [] := fun r o => own_kept o fun g4 hg4 => Below.heap_setCell _ _ _ _ (by
    obtain ⟨⟨fs, e1⟩, _⟩ := own_row o hg4
    exact row_ne e1 r (by decide))
  have q1 := q.set 66 (.int .u32 0)
  have q2 := q1.set 23 (.int .u64 f)
  have q3 := q2.set 34 (.int .u8 md)
  have q4 := q3.set 41 (.bool mi)
  refine ⟨p, rfl, ⟨_, _, [], q4, ⟨?_, ?_, ?_, ?_, ?_, ?_, ?_⟩, ?_, hno q3 (hno q2 (hno q1 (hno q HE.out.2.2)))⟩, HW.out, ?_⟩
  · exact set_get (set_get (set_get (set_got c66) (by decide)) (by decide)) (by decide)
  · exact set_get (set_get (set_get (set_get c32 (by decide)) (by decide)) (by decide)) (by decide)
  · exact set_get (set_get (set_get (set_get c104 (by decide)) (by decide)) (by decide)) (by decide)
  · exact set_get (set_get (set_got (set_get c23 (by decide))) (by decide)) (by decide)
  · exact set_get (set_got (set_get (set_get c34 (by decide)) (by decide))) (by decide)
  · exact set_got (set_get (set_get (set_get c41 (by decide)) (by decide)) (by decide))
  · exact set_get (set_get (set_get (set_get c352 (by decide)) (by decide)) (by decide)) (by decide)
  · exact set_get (set_get (set_get (set_get c106 (by decide)) (by decide)) (by decide)) (by decide)
  · have hw := HW.out
    exact (((HE.out.2.1.setCell hw _).setCell hw _).setCell hw _).setCell hw _
def NewSc (ww mi : Bool) (w : World) (e : Ending) (w' : World) : Prop := ∃ p cu f md o es, e = .returned (ptr p) ∧ PS w' w.heap.size p cu f md mi ww 0 ∧ RowAt w' cu es 67 ∧ es[1]? = some (.pointer o) ∧ w.heap.size ≤ p ∧ Below w.heap.size w w'
/-- A new scope's cells. -/
def sc2 (o : Value) (m : Int) : Array Value := #[.pointer none, o, .slice none 0 0, .map none, .slice none 0 0, .slice none 0 0, .int .i32 0, .int .i32 0, .int .u32 0, .int .u32 0, .bool false, .bool false, .bool false, .bool false, .int .u8 0, .int .u8 m]
set_option maxHeartbeats 4000000 in
theorem scan7 (ww pn cl bu mi : Bool) (w : World) : Calls Tryd.prog 7 #[.bool ww, .bool pn, .bool cl, .bool bu, .bool mi] w (NewSc ww mi w) := by
  have r1 := RowAt.new w (sc2 (.pointer none) 6) 67
  have b1 := (Below.refl w.heap.size w).alloc (Nat.le_refl _) (.cells (sc2 (.pointer none) 6) 67)
  have r2 := RowAt.new (w.alloc (.cells (sc2 (.pointer none) 6) 67)) (sc2 (.pointer (some ⟨w.heap.size, 0, none⟩)) 0) 67
  have b2 := b1.alloc (by simp) (.cells (sc2 (.pointer (some ⟨w.heap.size, 0, none⟩)) 0) 67)
  have H1 := Lib.hid (And.intro r1 b1)
  have H2 := Lib.hid (And.intro r2 b2)
  clear r1 b1 r2 b2
  cases pn
  · cases cl <;> cases bu <;> (
      go_enter Tryd.func7, Tryd.ntmps7
      go_wp2_with fail
      refine (new15 (w.heap.size + 1) w.heap.size _ _ mi ww _).mono ?_
      rintro e w3 ⟨p, rfl, h1, h2, h3⟩
      have hP : NewSc ww mi w (.returned (ptr p)) w3 := by
        obtain ⟨cs, V, xs, a, b, c, d⟩ := h1
        have hs := H2.out.2.size
        exact ⟨p, w.heap.size + 1, _, _, _, _, rfl, ⟨cs, V, xs, a, b, c, own_mono d hs⟩, by have := H2.out.1.below h3 H2.out.1.lt; simpa using this, rfl, Nat.le_trans hs h2, H2.out.2.trans (h3.mono hs)⟩
      have HP := Lib.hid hP
      clear hP h1 h2 h3
      go_wp2_with fail
      go_ret
      exact HP.out)
  · cases cl <;> cases bu <;> (
      go_enter Tryd.func7, Tryd.ntmps7
      go_wp2_with fail
      refine (new15 w.heap.size w.heap.size _ _ mi ww _).mono ?_
      rintro e w3 ⟨p, rfl, h1, h2, h3⟩
      have hP : NewSc ww mi w (.returned (ptr p)) w3 := by
        obtain ⟨cs, V, xs, a, b, c, d⟩ := h1
        have hs := H1.out.2.size
        exact ⟨p, w.heap.size, _, _, _, _, rfl, ⟨cs, V, xs, a, b, c, own_mono d hs⟩, H1.out.1.below h3 H1.out.1.lt, rfl, Nat.le_trans hs h2, H1.out.2.trans (h3.mono hs)⟩
      have HP := Lib.hid hP
      clear hP h1 h2 h3
      go_wp2_with fail
      go_ret
      exact HP.out)

end Go.Proofs.YtkncfhhiookgdaaDoor
