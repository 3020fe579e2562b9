import Derived.Test.YtlehgpnglghlkaaKit
import Derived.Test.YtlehgpnglghlkaaUsD
namespace Go.Proofs.Ytlehgpnglghlkaa.fnRecordUsageCountsEveryCall
open Go.ChangeShapes Go.WideShapes Go.ChangeAt Go.RowKit
set_option linter.unusedVariables false
set_option maxRecDepth 100000
set_option maxHeartbeats 2000000

theorem info70 : (Try.prog.info? 70).map (fun i => (i.zero, i.size, i.bytes)) = some (some (.agg #[.pointer none, .string ⟨#[]⟩, .int .u32 0, .int .u32 0, .int .u32 0, .int .u32 0, .int .u32 0, .int .u16 0, .int .u8 0, .int .u8 0]), 10, 48) := by kernel_rfl
theorem info24 : (Try.prog.info? 24).map (fun i => (i.zero, i.size, i.bytes)) = some (some (.int .u32 0), 1, 4) := by kernel_rfl
theorem build195 (w : World) : (Instr.build 195 #[]).run Try.prog w = .ok (.agg PZ195) w := by kernel_rfl

theorem syms_made {w : World} {B R n : Nat} (h : w.ownsRow B 70 10 (.slice (some ⟨R, 0, none⟩) n n) n (madeCells (Value.agg #[.pointer none, .string ⟨#[]⟩, .int .u32 0, .int .u32 0, .int .u32 0, .int .u32 0, .int .u32 0, .int .u16 0, .int .u8 0, .int .u8 0]).cells (n * 10)).toList) : Syms w R n (fun _ => 0) := by
  obtain ⟨cs, h1, h2, h3⟩ := Cells.made h
  refine ⟨cs, h1, h2, fun i hi => ?_⟩
  rw [h3 (i * 10 + 4) (by omega)]
  simp [Value.cells, Nat.mul_add_mod]

theorem set_ne {cs : Array Value} {i j : Nat} {a v : Value} (hn : i ≠ j) (h : cs[j]? = some v) : (cs.setIfInBounds i a)[j]? = some v := by
  rw [Array.getElem?_setIfInBounds, if_neg hn]
  exact h
theorem set_eq {cs : Array Value} {i : Nat} {a : Value} (h : i < cs.size) : (cs.setIfInBounds i a)[i]? = some a := by
  rw [Array.getElem?_setIfInBounds, if_pos rfl, if_pos h]

theorem made1 {w : World} {B R n : Nat} {E : TypeId} {v : Value} (h : w.ownsRow B E 1 (.slice (some ⟨R, 0, none⟩) n n) n (madeCells #[v] n).toList) : Cells w R E n (fun _ => v) := by
  have h' : w.ownsRow B E 1 (.slice (some ⟨R, 0, none⟩) n n) n (madeCells #[v] (n * 1)).toList := by rw [Nat.mul_one]; exact h
  have := Cells.made h'
  rw [Nat.mul_one] at this
  exact this.congr fun i _ => by simp [Nat.mod_one]

/-- The parser as the law makes it. When nothing is counted for TypeScript, the zero counts lie apart, in block Z. -/
def Made (w : World) (p S T Z q m n : Nat) (dead ts part : Bool) (c : Nat → Nat) : Prop :=
  Cn w p S T q m n dead ts part c ∧ (ts = true → Z = T) ∧ (ts = false → T = S ∧ (∃ cs, RowAt w p cs 195 ∧ cs[108]? = some (.slice (some ⟨Z, 0, none⟩) n n)) ∧ Cells w Z 24 n (fun _ => .int .u32 0)) ∧ (part = false → m = S)

theorem made_fin {wf : World} {p S Z q m n : Nat} {dead ts part : Bool} {cs : Array Value} (hr : RowAt wf p cs 195) (c106 : cs[106]? = some (.slice (some ⟨S, 0, none⟩) n n)) (c108 : cs[108]? = some (.slice (some ⟨Z, 0, none⟩) n n)) (c350 : cs[350]? = some (.bool dead)) (c32 : cs[32]? = some (.bool ts))
    (c105 : cs[105]? = some (.pointer (if part then some ⟨q, 0, none⟩ else none))) (hs : Syms wf S n (fun _ => 0)) (hz : Cells wf Z 24 n (fun _ => .int .u32 0)) (hp : part = true → (∃ cs, RowAt wf q cs 49 ∧ cs[4]? = some (.map (some m))) ∧ MapIs wf m IsPair (fun _ => none) 0) (hm : part = false → m = S) :
    Made wf p S (if ts then Z else S) Z q m n dead ts part (fun _ => 0) := by
  have hd : dist (fun _ => 0) n = 0 := by
    induction n with
    | zero => rfl
    | succ n ih =>
      have : ∀ n, dist (fun _ => 0) n = 0 := fun n => by
        induction n with
        | zero => rfl
        | succ n ih => rw [dist, ih]; rfl
      exact this _
  refine ⟨⟨fun _ => none, 0, ⟨⟨cs, hr, c106, fun e => ?_, c350, c32, c105⟩, ?_, fun e => ?_, hp⟩, fun _ => ⟨fun i => ?_, ?_⟩⟩, fun e => by rw [if_pos e], fun e => ⟨by rw [if_neg (by rw [e]; decide)], ⟨cs, hr, c108⟩, hz⟩, hm⟩
  · rw [if_pos e]; exact c108
  · obtain ⟨ds, r1, r2, r3⟩ := hs
    exact ⟨ds, r1, r2, fun i hi => by rw [r3 i hi]; cases dead <;> rfl⟩
  · rw [if_pos e]; exact hz
  · simp
  · rw [hd]; simp

theorem make7 (n : Nat) (dead ts part : Bool) (w : World) (h1 : 1 ≤ n) (hn : n ≤ 4096) :
    Calls Try.prog 7 #[.int .i64 n, .bool dead, .bool ts, .bool part] w fun e w' => ∃ p S T Z q m, e = .returned (.pointer (some ⟨p, 0, none⟩)) ∧ Made w' p S T Z q m n dead ts part (fun _ => 0) ∧ (w.heap.size ≤ S ∧ w.heap.size ≤ T ∧ w.heap.size ≤ m) ∧ Below w.heap.size w w' := by
  cases part
  · as_aux_lemma =>
    obtain ⟨i0, hi, hz0, hz1, hz2⟩ := info_parts info70
    obtain ⟨j0, gi, gz0, gz1, gz2⟩ := info_parts info24
    have hmm := @run_makeMap Try.prog
    go_enter Try.func7, Try.ntmps7
    go_wp2_with (first
      | (refine wpList_build rfl 195 _ rfl #[] (by simp [Act.eval]) _ (build195 _) ?_)
      | (at_make; refine wpList_make_full _ rfl _ _ 34 rfl w.heap.size 70 i0 _ 10 Try.underlying34 hi hz0 hz1 .i64 .i64 _ _ n rfl rfl rfl rfl (by rw [hz2]; omega) (by unfold maxLen; omega) (by go_size) ?_))
    intro w1 hown hgrow
    have y1 := Lib.hid (syms_made hown)
    have b1 := Lib.hid (show Below (w.heap.size + 1) (w.alloc (.cells PZ195 195)) w1 from Below.grown (Below.refl _ _) hgrow (by simp) (fun k hk => by cases hk))
    have r1 := Lib.hid ((RowAt.new w PZ195 195).below b1.out (by omega))
    have c1 := r1.out.cellv PZ195_106
    have f1 := r1.out.frozen 106
    have z1 : w.heap.size + 1 < w1.heap.size := y1.out.lt
    clear hown hgrow
    go_wp2_with (at_make; refine wpList_make_full _ rfl _ _ 22 rfl w.heap.size 24 j0 _ 1 Try.underlying22 gi gz0 gz1 .i64 .i64 _ _ n rfl rfl rfl rfl (by rw [gz2]; omega) (by unfold maxLen; omega) (by simp; omega) ?_)
    intro w2 hown hgrow
    have y2 := Lib.hid (made1 hown)
    have b2 := Lib.hid (show Below w1.heap.size (w1.setCell ⟨w.heap.size, 106, none⟩ (.slice (some ⟨w.heap.size + 1, 0, none⟩) n n)) w2 from Below.grown (Below.refl _ _) hgrow (by simp) (fun k hk => by cases hk))
    have r2 := Lib.hid ((r1.out.set 106 (.slice (some ⟨w.heap.size + 1, 0, none⟩) n n)).below b2.out (by omega))
    have c108 := r2.out.cellv (j := 108) (v := .slice none 0 0) (set_ne (by decide) PZ195_108)
    have c350 := r2.out.cellv (j := 350) (v := .bool false) (set_ne (by decide) PZ195_350)
    have c32 := r2.out.cellv (j := 32) (v := .bool false) (set_ne (by decide) PZ195_32)
    have c105 := r2.out.cellv (j := 105) (v := .pointer none) (set_ne (by decide) PZ195_105)
    have f108 := r2.out.frozen 108
    have f350 := r2.out.frozen 350
    have f32 := r2.out.frozen 32
    have f105 := r2.out.frozen 105
    have hlt2 := r2.out.lt
    clear hown hgrow hi hz0 hz1 hz2 gi gz0 gz1 gz2 i0 j0
    go_wp2_with fail
    go_ret
    have Bz : Below w.heap.size w w2 := Below.trans (Below.trans (by go_grown) (b1.out.mono (by omega))) (Below.trans ((Below.refl _ _).setCell (by simp) _) (b2.out.mono (by omega)))
    have R := ((r2.out.set 108 (.slice (some ⟨w1.heap.size, 0, none⟩) n n)).set 350 (.bool dead)).set 32 (.bool ts)
    have ySz : Syms w2 (w.heap.size + 1) n (fun _ => 0) := (y1.out.kept (Below.heap_setCell _ _ _ _ (show w.heap.size + 1 ≠ w.heap.size by omega))).kept (b2.out.block _ z1)
    have hne : ∀ j, j ≠ w.heap.size → (((w2.setCell ⟨w.heap.size, 108, none⟩ (.slice (some ⟨w1.heap.size, 0, none⟩) n n)).setCell ⟨w.heap.size, 350, none⟩ (.bool dead)).setCell ⟨w.heap.size, 32, none⟩ (.bool ts)).heap[j]? = w2.heap[j]? := fun j hj => by rw [Below.heap_setCell _ _ _ _ hj, Below.heap_setCell _ _ _ _ hj, Below.heap_setCell _ _ _ _ hj]
    refine ⟨w.heap.size, w.heap.size + 1, (if ts then w1.heap.size else w.heap.size + 1), w1.heap.size, w.heap.size, w.heap.size + 1, rfl, made_fin R ?_ ?_ ?_ ?_ ?_ (ySz.kept (hne _ (by omega))) (y2.out.kept (hne _ (by omega))) (fun e => by cases e) (fun _ => rfl), ⟨by omega, by split <;> omega, by omega⟩, by have := b2.out.size; simp at this; go_grown⟩
    · exact set_ne (by decide) (set_ne (by decide) (set_ne (by decide) (set_eq (by simp))))
    · exact set_ne (by decide) (set_ne (by decide) (set_eq (by simp)))
    · exact set_ne (by decide) (set_eq (by simp))
    · exact set_eq (by simp)
    · exact set_ne (by decide) (set_ne (by decide) (set_ne (by decide) (set_ne (by decide) PZ195_105)))
  · as_aux_lemma =>
    obtain ⟨i0, hi, hz0, hz1, hz2⟩ := info_parts info70
    obtain ⟨j0, gi, gz0, gz1, gz2⟩ := info_parts info24
    have hmm := @run_makeMap Try.prog
    go_enter Try.func7, Try.ntmps7
    go_wp2_with (first
      | (refine wpList_build rfl 195 _ rfl #[] (by simp [Act.eval]) _ (build195 _) ?_)
      | (at_make; refine wpList_make_full _ rfl _ _ 34 rfl w.heap.size 70 i0 _ 10 Try.underlying34 hi hz0 hz1 .i64 .i64 _ _ n rfl rfl rfl rfl (by rw [hz2]; omega) (by unfold maxLen; omega) (by go_size) ?_))
    intro w1 hown hgrow
    have y1 := Lib.hid (syms_made hown)
    have b1 := Lib.hid (show Below (w.heap.size + 1) (w.alloc (.cells PZ195 195)) w1 from Below.grown (Below.refl _ _) hgrow (by simp) (fun k hk => by cases hk))
    have r1 := Lib.hid ((RowAt.new w PZ195 195).below b1.out (by omega))
    have c1 := r1.out.cellv PZ195_106
    have f1 := r1.out.frozen 106
    have z1 : w.heap.size + 1 < w1.heap.size := y1.out.lt
    clear hown hgrow
    go_wp2_with (at_make; refine wpList_make_full _ rfl _ _ 22 rfl w.heap.size 24 j0 _ 1 Try.underlying22 gi gz0 gz1 .i64 .i64 _ _ n rfl rfl rfl rfl (by rw [gz2]; omega) (by unfold maxLen; omega) (by simp; omega) ?_)
    intro w2 hown hgrow
    have y2 := Lib.hid (made1 hown)
    have b2 := Lib.hid (show Below w1.heap.size (w1.setCell ⟨w.heap.size, 106, none⟩ (.slice (some ⟨w.heap.size + 1, 0, none⟩) n n)) w2 from Below.grown (Below.refl _ _) hgrow (by simp) (fun k hk => by cases hk))
    have r2 := Lib.hid ((r1.out.set 106 (.slice (some ⟨w.heap.size + 1, 0, none⟩) n n)).below b2.out (by omega))
    have c108 := r2.out.cellv (j := 108) (v := .slice none 0 0) (set_ne (by decide) PZ195_108)
    have c350 := r2.out.cellv (j := 350) (v := .bool false) (set_ne (by decide) PZ195_350)
    have c32 := r2.out.cellv (j := 32) (v := .bool false) (set_ne (by decide) PZ195_32)
    have c105 := r2.out.cellv (j := 105) (v := .pointer none) (set_ne (by decide) PZ195_105)
    have f108 := r2.out.frozen 108
    have f350 := r2.out.frozen 350
    have f32 := r2.out.frozen 32
    have f105 := r2.out.frozen 105
    have hlt2 := r2.out.lt
    clear hown hgrow hi hz0 hz1 hz2 gi gz0 gz1 gz2 i0 j0
    go_wp2_with fail
    go_ret
    have Bz : Below w.heap.size w w2 := Below.trans (Below.trans (by go_grown) (b1.out.mono (by omega))) (Below.trans ((Below.refl _ _).setCell (by simp) _) (b2.out.mono (by omega)))
    have R := ((((((r2.out.set 108 (.slice (some ⟨w1.heap.size, 0, none⟩) n n)).set 350 (.bool dead)).set 32 (.bool ts)).set 105 (.pointer (some ⟨w2.heap.size + 1, 0, none⟩))).alloc (.map #[] 0)).alloc (.cells #[.slice none 0 0, .slice none 0 0, .slice none 0 0, .slice none 0 0, .map (some w2.heap.size), .map none, .map none, .slice none 0 0, .bool false, .bool false, .bool false] 49))
    have ySz : Syms w2 (w.heap.size + 1) n (fun _ => 0) := (y1.out.kept (Below.heap_setCell _ _ _ _ (show w.heap.size + 1 ≠ w.heap.size by omega))).kept (b2.out.block _ z1)
    have hsz := b2.out.size
    simp at hsz
    have hne : ∀ j, j ≠ w.heap.size → j < w2.heap.size → ((((((w2.setCell ⟨w.heap.size, 108, none⟩ (.slice (some ⟨w1.heap.size, 0, none⟩) n n)).setCell ⟨w.heap.size, 350, none⟩ (.bool dead)).setCell ⟨w.heap.size, 32, none⟩ (.bool ts)).setCell ⟨w.heap.size, 105, none⟩ (.pointer (some ⟨w2.heap.size + 1, 0, none⟩))).alloc (.map #[] 0)).alloc (.cells #[.slice none 0 0, .slice none 0 0, .slice none 0 0, .slice none 0 0, .map (some w2.heap.size), .map none, .map none, .slice none 0 0, .bool false, .bool false, .bool false] 49)).heap[j]? = w2.heap[j]? := fun j hj hl => by
      rw [Below.heap_alloc _ _ _ (by simp; omega), Below.heap_alloc _ _ _ (by simp; omega), Below.heap_setCell _ _ _ _ hj, Below.heap_setCell _ _ _ _ hj, Below.heap_setCell _ _ _ _ hj, Below.heap_setCell _ _ _ _ hj]
    refine ⟨w.heap.size, w.heap.size + 1, (if ts then w1.heap.size else w.heap.size + 1), w1.heap.size, w2.heap.size + 1, w2.heap.size, rfl, made_fin R ?_ ?_ ?_ ?_ ?_ (ySz.kept (hne _ (by omega) ySz.lt)) (y2.out.kept (hne _ (by omega) y2.out.lt)) (fun _ => ⟨⟨_, RowAt.newAt (by simp), rfl⟩, (MapIs.newAt IsPair (by simp)).alloc _⟩) (fun e => by cases e), ⟨by omega, by split <;> omega, by omega⟩, by go_grown⟩
    · exact set_ne (by decide) (set_ne (by decide) (set_ne (by decide) (set_ne (by decide) (set_eq (by simp)))))
    · exact set_ne (by decide) (set_ne (by decide) (set_ne (by decide) (set_eq (by simp))))
    · exact set_ne (by decide) (set_ne (by decide) (set_eq (by simp)))
    · exact set_ne (by decide) (set_eq (by simp))
    · exact set_eq (by simp)

theorem use9 (p S T Z q m n k : Nat) (dead ts part : Bool) (c : Nat → Nat) (w : World) (hk : k < n) (hn : n ≤ 65536) (h : Made w p S T Z q m n dead ts part c) :
    Calls Try.prog 9 #[.pointer (some ⟨p, 0, none⟩), .int .u32 k] w fun e w' => e = .returned (.int .u32 (if dead then 0 else (c k : Int))) ∧ w = w' := by
  obtain ⟨⟨F, cnt, ⟨⟨cs, h1⟩, h2, h3, h4⟩, _⟩, _⟩ := h
  have c1 := h1.row.cellv h1.sym
  have c2 := h2.cell hk
  obtain ⟨v, hv⟩ : ∃ v, (if dead then 0 else (c k : Int)) = v := ⟨_, rfl⟩
  rw [hv] at c2 ⊢
  clear h1 h2 h3 h4 hv
  go_enter Try.func9, Try.ntmps9
  go_wp2_with fail
  go_ret
  exact ⟨rfl, rfl⟩

theorem ts10 (p S T Z q m n k : Nat) (dead ts part : Bool) (c : Nat → Nat) (w : World) (hk : k < n) (hn : n ≤ 65536) (h : Made w p S T Z q m n dead ts part c) :
    Calls Try.prog 10 #[.pointer (some ⟨p, 0, none⟩), .int .u32 k] w fun e w' => e = .returned (.int .u32 (if ts then (c k : Int) else 0)) ∧ w = w' := by
  obtain ⟨⟨F, cnt, ⟨⟨cs, h1⟩, h2, h3, h4⟩, _⟩, _, h6, _⟩ := h
  obtain ⟨v, hv⟩ : ∃ v, (if ts then (c k : Int) else 0) = v := ⟨_, rfl⟩
  have ⟨Y, c1, c2⟩ : ∃ Y, w.cell? ⟨p, 108, none⟩ = some (.slice (some ⟨Y, 0, none⟩) n n) ∧ w.cell? ⟨Y, k, none⟩ = some (.int .u32 v) := by
    cases ts
    · obtain ⟨_, ⟨ds, d1, d2⟩, d3⟩ := h6 rfl
      exact ⟨Z, d1.cellv d2, by rw [← hv]; exact d3.cell hk⟩
    · exact ⟨T, h1.row.cellv (h1.tsc rfl), by rw [← hv]; exact (h3 rfl).cell hk⟩
  rw [hv]
  clear h1 h2 h3 h4 h6 hv
  go_enter Try.func10, Try.ntmps10
  go_wp2_with fail
  go_ret
  exact ⟨rfl, rfl⟩

/-- Is the symbol in the part, and with what count? -/
def inPart (dead part : Bool) (c : Nat → Nat) (k : Nat) : Bool := part && (!dead && !(c k == 0))

theorem part11 (p S T Z q m n k : Nat) (dead ts part : Bool) (c : Nat → Nat) (w : World) (hk : k < n) (hn : n ≤ 65536) (h : Made w p S T Z q m n dead ts part c) :
    Calls Try.prog 11 #[.pointer (some ⟨p, 0, none⟩), .int .u32 k] w fun e w' => e = .returned (.tuple #[.int .u32 (if inPart dead part c k then (c k : Int) else 0), .bool (inPart dead part c k)]) ∧ Below w.heap.size w w' := by
  obtain ⟨⟨F, cnt, ⟨⟨cs, h1⟩, h2, h3, h4⟩, h5⟩, _, h6, _⟩ := h
  have c1 := h1.row.cellv h1.part
  cases part
  · simp only [Bool.false_eq_true, if_false] at c1
    have e : inPart dead false c k = false := rfl
    rw [e]
    clear h1 h2 h3 h4 h5 h6 e
    go_enter Try.func11, Try.ntmps11
    go_wp2_with fail
    go_ret2
    exact ⟨rfl, Below.refl _ _⟩
  · simp only [if_true] at c1
    obtain ⟨⟨us, u1, u2⟩, u3⟩ := h4 rfl
    obtain ⟨hF, _⟩ := h5 rfl
    have c2 := u1.cellv u2
    obtain ⟨b, hb⟩ : ∃ b, inPart dead true c k = b := ⟨_, rfl⟩
    have l1 : (Instr.lookup 39 (.map (some m)) (.agg #[.int .u32 0, .int .u32 k]) true).run Try.prog w = .ok (.tuple #[.agg #[.int .u32 (if b then (c k : Int) else 0)], .bool b]) w := by
      have := u3.look keyR Try.underlying39 (zero41 w) (refV_pair k) true
      rw [hF k] at this
      have hb' : (dead || c k == 0) = !b := by rw [← hb, inPart]; cases dead <;> cases (c k == 0) <;> rfl
      rw [hb'] at this
      cases b
      · exact this
      · exact this
    rw [hb]
    obtain ⟨v, hv⟩ : ∃ v, (if b then (c k : Int) else 0) = v := ⟨_, rfl⟩
    rw [hv] at l1 ⊢
    clear h1 h2 h3 h4 h5 h6 u1 u2 u3 hF hb hv
    go_enter Try.func11, Try.ntmps11
    go_wp2_with fail
    go_ret2
    exact ⟨rfl, by go_grown⟩

theorem len12 (p S T Z q m n : Nat) (dead ts part : Bool) (c : Nat → Nat) (w : World) (h : Made w p S T Z q m n dead ts part c) :
    Calls Try.prog 12 #[.pointer (some ⟨p, 0, none⟩)] w fun e w' => e = .returned (.int .i64 ((if part && !dead then dist c n else 0 : Nat) : Int)) ∧ w = w' := by
  obtain ⟨⟨F, cnt, ⟨⟨cs, h1⟩, h2, h3, h4⟩, h5⟩, _, h6, _⟩ := h
  have c1 := h1.row.cellv h1.part
  cases part
  · simp only [Bool.false_eq_true, if_false] at c1
    clear h1 h2 h3 h4 h5 h6
    go_enter Try.func12, Try.ntmps12
    go_wp2_with fail
    go_ret
    exact ⟨rfl, rfl⟩
  · simp only [if_true] at c1
    obtain ⟨⟨us, u1, u2⟩, u3⟩ := h4 rfl
    obtain ⟨_, hc⟩ := h5 rfl
    have c2 := u1.cellv u2
    have l1 : ∀ ty, (Builtin.len_ #[39] ty #[.map (some m)]).run Try.prog w = .ok (.int .i64 cnt) w := fun ty => u3.len Try.underlying39
    have e : (if true && !dead then dist c n else 0) = cnt := by rw [hc]; cases dead <;> rfl
    rw [e]
    clear h1 h2 h3 h4 h5 h6 u1 u2 u3 hc e
    go_enter Try.func12, Try.ntmps12
    go_wp2_with fail
    go_ret
    exact ⟨rfl, rfl⟩

end Go.Proofs.Ytlehgpnglghlkaa.fnRecordUsageCountsEveryCall
