import Derived.Test.YthmfjhadkmeldacFmtKit
import Derived.Test.YthmfjhadkmeldacFmtRow
import Derived.Test.YthmfjhadkmeldacFmtCells
import Derived.Test.YthmfjhadkmeldacFmtRec
import Derived.Test.YthmfjhadkmeldacFmtBig
import Derived.Deep.AppendLies
import Derived.Deep.RegionLaw
namespace Go.Proofs.YthmfjhadkmeldacFmt
open Go.ChangeShapes Go.WideShapes Go.ChangeAt Go.RowKit
set_option linter.unusedVariables false
set_option maxRecDepth 100000
set_option maxHeartbeats 2000000

open Go.Extern
theorem row_ne {w : World} {a b : Nat} {cs ds : Array Value} {s t : TypeId} (h : RowAt w a cs s) (g : RowAt w b ds t) (hn : s ≠ t) : a ≠ b := by
  intro e
  subst e
  unfold RowAt at h g
  rw [h] at g
  injection g with g
  injection g with _ g
  exact hn g
theorem own_kept {w w' : World} {B n : Nat} {e : TypeId} {size : Nat} {v : Value} {xs : List Value} (h : w.ownsRow B e size v n xs) (hk : ∀ g, v.ownBlock = some g → w'.heap[g]? = w.heap[g]?) : w'.ownsRow B e size v n xs := by
  obtain ⟨h1, h2⟩ := h
  refine ⟨h1, ?_⟩
  rcases h2 with h2 | ⟨g, cap, cur, hv, hb, hh, h3⟩
  · exact .inl h2
  · exact .inr ⟨g, cap, cur, hv, hb, (hk g (by rw [hv]; rfl)).trans hh, h3⟩
theorem own_row {w : World} {B n g size : Nat} {e : TypeId} {v : Value} {xs : List Value} (h : w.ownsRow B e size v n xs) (hg : v.ownBlock = some g) : (∃ cs, RowAt w g cs e) ∧ B ≤ g := by
  rcases h.2 with ⟨rfl, _⟩ | ⟨g', cap, cur, rfl, hb, hh, _⟩
  · cases hg
  · have : g' = g := by simpa [Value.ownBlock] using hg
    subst this
    exact ⟨⟨cur, hh⟩, hb⟩
theorem info26 : (Tryf.prog.info? 26).map (fun i => (i.zero, i.size, i.bytes)) = some (some (.pointer none), 1, 8) := by kernel_rfl
/-- A pointer to a block's first cell. -/
def ptr (b : Nat) : Value := .pointer (some ⟨b, 0, none⟩)
/-- The rows that a push leaves: all but the parser's, the part's, and the pointers from B on. -/
def Kp (B : Nat) (w w' : World) : Prop := ∀ j cs t, RowAt w j cs t → (t ≠ 26 ∨ j < B) → t ≠ 178 → t ≠ 51 → RowAt w' j cs t
theorem Kp.refl {B : Nat} {w : World} : Kp B w w := fun _ _ _ h _ _ _ => h
theorem Kp.trans {B : Nat} {w w' w'' : World} (h : Kp B w w') (g : Kp B w' w'') : Kp B w w'' := fun j cs t r h1 h2 h3 => g j cs t (h j cs t r h1 h2 h3) h1 h2 h3
/-- The parser and the part. -/
def PS (w : World) (B p q g o m : Nat) (cur : Value) (k : Nat) (xs : List Value) : Prop :=
  ∃ cs ds V o', RowAt w p cs 178 ∧ (0 < m → o' = o) ∧ cs[177]? = some (.slice (some ⟨g, o', none⟩) m m) ∧ cs[104]? = some cur ∧ cs[105]? = some (ptr q) ∧ RowAt w q ds 51 ∧ ds[1]? = some V ∧ w.ownsRow B 26 1 V k xs
def Pushed (B p q g o m s k : Nat) (xs : List Value) (b0 : Nat) (w : World) (e : Ending) (w' : World) : Prop :=
  e = .returned (.tuple #[]) ∧ PS w' B p q g (o + 2) m (ptr s) (k + 1) (xs ++ [ptr s]) ∧ Kp B w w' ∧ Below b0 w w'
theorem set_get {cs : Array Value} {j k : Nat} {u v : Value} (h : cs[k]? = some v) (hn : j ≠ k) : (cs.setIfInBounds j u)[k]? = some v := by
  rw [Array.getElem?_setIfInBounds, if_neg hn]; exact h
theorem set_got {cs : Array Value} {j : Nat} {u v : Value} (h : cs[j]? = some v) : (cs.setIfInBounds j u)[j]? = some u := by
  have hl : j < cs.size := (Array.getElem?_eq_some_iff.1 h).1
  rw [Array.getElem?_setIfInBounds, if_pos rfl, if_pos hl]

set_option maxHeartbeats 4000000 in
theorem push11z (B p q g o s k b0 : Nat) (cur : Value) (xs : List Value) (kd l : Int) (w : World) (hP : PS w B p q g o (0 + 1) cur k xs) (hg0 : w.cell? ⟨g, o, none⟩ = some (ptr s)) (hg1 : w.cell? ⟨g, o + 1, none⟩ = some (.int .i32 l)) (hs : w.cell? ⟨s, 15, none⟩ = some (.int .u8 kd))
    (hk : k ≤ 100000) (hB : B ≤ w.heap.size) (b1 : b0 ≤ B) (b2 : b0 ≤ p) (b3 : b0 ≤ q) :
    Calls Tryf.prog 11 #[ptr p, .int .u8 kd, .agg #[.int .i32 l]] w (Pushed B p q g o 0 s k xs b0 w) := by
  obtain ⟨i0, hi, hz0, hz1, hz2⟩ := info_parts info26
  obtain ⟨cs, ds, V, o', r1, ho, c177, c104, c105, r2, d1, own⟩ := hP
  obtain rfl := ho (by omega)
  have p177 := r1.cellv c177
  have p104 := r1.cellv c104
  have p105 := r1.cellv c105
  have q1 := r2.cellv d1
  have f177 := r1.frozen 177
  have f104 := r1.frozen 104
  have fq := r2.frozen 1
  have lp := r1.lt
  have lq := r2.lt
  have lg := cell_lt hg0
  have ls := cell_lt hs
  have H1 := Lib.hid (And.intro r1 (And.intro r2 own))
  have H2 := Lib.hid (And.intro c177 (And.intro c104 (And.intro c105 d1)))
  have HB := Lib.hid (And.intro hB (And.intro b1 (And.intro b2 b3)))
  clear r1 r2 own c177 c104 c105 d1 ho hB b1 b2 b3
  unfold ptr at *
  dsimp only at lg ls

  go_enter Tryf.func11, Tryf.ntmps11
  go_upto_region 8 with (fail)
  have R1 : RowAt ((((w.setCell ⟨p, 177, none⟩ (Value.slice (some { block := g, off := o' }) 0 0)).setCell ⟨p, 104, none⟩ (Value.pointer (some ⟨s, 0, none⟩))).alloc (Obj.cells #[Value.int IntKind.i32 l] 33)).alloc (Obj.cells #[Value.pointer (some ⟨s, 0, none⟩), Value.int IntKind.i32 l] 180)) p ((cs.setIfInBounds 177 (Value.slice (some { block := g, off := o' }) 0 0)).setIfInBounds 104 (Value.pointer (some ⟨s, 0, none⟩))) 178 := (((H1.out.1.set 177 _).set 104 _).alloc _).alloc _
  have K1 : ∀ j ds t, RowAt w j ds t → t ≠ 178 → RowAt ((((w.setCell ⟨p, 177, none⟩ (Value.slice (some { block := g, off := o' }) 0 0)).setCell ⟨p, 104, none⟩ (Value.pointer (some ⟨s, 0, none⟩))).alloc (Obj.cells #[Value.int IntKind.i32 l] 33)).alloc (Obj.cells #[Value.pointer (some ⟨s, 0, none⟩), Value.int IntKind.i32 l] 180)) j ds t := fun j ds t r ht => (((r.set_other (row_ne r H1.out.1 ht) 177 _).set_other (row_ne r H1.out.1 ht) 104 _).alloc _).alloc _
  have S1 : ((((w.setCell ⟨p, 177, none⟩ (Value.slice (some { block := g, off := o' }) 0 0)).setCell ⟨p, 104, none⟩ (Value.pointer (some ⟨s, 0, none⟩))).alloc (Obj.cells #[Value.int IntKind.i32 l] 33)).alloc (Obj.cells #[Value.pointer (some ⟨s, 0, none⟩), Value.int IntKind.i32 l] 180)).heap.size = w.heap.size + 1 + 1 := by simp
  have L1 : RowAt ((((w.setCell ⟨p, 177, none⟩ (Value.slice (some { block := g, off := o' }) 0 0)).setCell ⟨p, 104, none⟩ (Value.pointer (some ⟨s, 0, none⟩))).alloc (Obj.cells #[Value.int IntKind.i32 l] 33)).alloc (Obj.cells #[Value.pointer (some ⟨s, 0, none⟩), Value.int IntKind.i32 l] 180)) (w.heap.size + 1) #[Value.pointer (some ⟨s, 0, none⟩), Value.int IntKind.i32 l] 180 := by
    have := RowAt.new (((w.setCell ⟨p, 177, none⟩ (Value.slice (some { block := g, off := o' }) 0 0)).setCell ⟨p, 104, none⟩ (Value.pointer (some ⟨s, 0, none⟩))).alloc (Obj.cells #[Value.int IntKind.i32 l] 33)) #[Value.pointer (some ⟨s, 0, none⟩), Value.int IntKind.i32 l] 180
    simpa using this
  have B1 : Below b0 w ((((w.setCell ⟨p, 177, none⟩ (Value.slice (some { block := g, off := o' }) 0 0)).setCell ⟨p, 104, none⟩ (Value.pointer (some ⟨s, 0, none⟩))).alloc (Obj.cells #[Value.int IntKind.i32 l] 33)).alloc (Obj.cells #[Value.pointer (some ⟨s, 0, none⟩), Value.int IntKind.i32 l] 180)) := by
    have := HB.out
    exact ((((Below.refl b0 w).setCell this.2.2.1 _).setCell this.2.2.1 _).alloc (by simp; omega) _).alloc (by simp; omega) _
  have own1 := own_kept (w' := ((((w.setCell ⟨p, 177, none⟩ (Value.slice (some { block := g, off := o' }) 0 0)).setCell ⟨p, 104, none⟩ (Value.pointer (some ⟨s, 0, none⟩))).alloc (Obj.cells #[Value.int IntKind.i32 l] 33)).alloc (Obj.cells #[Value.pointer (some ⟨s, 0, none⟩), Value.int IntKind.i32 l] 180))) H1.out.2.2 fun g hg => by
    obtain ⟨⟨es, e1⟩, _⟩ := own_row H1.out.2.2 hg
    exact (K1 g es 26 e1 (by decide)).trans e1.symm
  have R2 := K1 q ds 51 H1.out.2.1 (by decide)
  clear p177 p104 p105 q1 f177 f104 fq lp lq lg ls hg0 hg1 hs
  generalize hW : ((((w.setCell ⟨p, 177, none⟩ (Value.slice (some { block := g, off := o' }) 0 0)).setCell ⟨p, 104, none⟩ (Value.pointer (some ⟨s, 0, none⟩))).alloc (Obj.cells #[Value.int IntKind.i32 l] 33)).alloc (Obj.cells #[Value.pointer (some ⟨s, 0, none⟩), Value.int IntKind.i32 l] 180)) = W at R1 K1 S1 L1 B1 own1 R2 ⊢
  clear hW
  have q1 := R2.cellv H2.out.2.2.2
  have fq := R2.frozen 1
  have l0 := L1.cellv (j := 0) (v := .pointer (some ⟨s, 0, none⟩)) rfl
  have lq := R2.lt
  have lW : w.heap.size + 1 < W.heap.size := by omega
  have HA : Hid (((W.alloc (.cells #[.pointer (some ⟨s, 0, none⟩)] 26)).drew).ownsRow B 26 1 V k xs) := own_kept own1 fun g hg => by
    obtain ⟨⟨es, e1⟩, _⟩ := own_row own1 hg
    exact Below.heap_alloc _ _ _ e1.lt
  have HNW : Hid (∀ j u, [Value.pointer (some ⟨s, 0, none⟩)][j]? = some u → ((W.alloc (.cells #[.pointer (some ⟨s, 0, none⟩)] 26)).drew).cell? ((⟨W.heap.size, 0, none⟩ : Addr).add j) = some u) := cell_one_new W _ _
  have HN : Hid (V.ownBlock ≠ some q) := fun hg => by
    obtain ⟨⟨es, e1⟩, _⟩ := own_row own1 hg
    exact row_ne e1 R2 (by decide) rfl
  have HW := Lib.hid (And.intro R1 (And.intro R2 (And.intro K1 (And.intro S1 B1))))
  clear R1 R2 K1 S1 B1 own1 L1
  go_region_law (refine step_append_lies _ rfl (.tmp 80) (.tmp 83) 25 rfl B 26 i0 _ 1 8 Tryf.underlying25 hi hz0 hz1 hz2 rfl (by decide) V k xs (by simp [Act.eval, Act.put]) HA.out ⟨W.heap.size, 0, none⟩ 1 1 [.pointer (some ⟨s, 0, none⟩)] (by simp [Act.eval, Act.put]) rfl HNW.out (by simp [Value.oneCell']) (by decide) (by unfold maxLen; omega) (by omega) (by have := HB.out; simp; omega) (W.heap.size + 1) (by simp) ?_; intro g2 cap w2 hown2 hgrow2 hat2 hlt2; have r2 : RowAt w2 q ds 51 := (hgrow2.block q (by simp; omega) (fun e => HN.out e.symm)).trans (HW.out.2.1.alloc _); have k2 := r2.cellv H2.out.2.2.2; have g3 := r2.frozen 1; have HO2 := Lib.hid hown2; have HGR := Lib.hid hgrow2; have HR2 := Lib.hid r2; clear hown2 hgrow2 hat2 r2)
  all_goals
    trace_state
    go_end0
    have kw2 : ∀ j es t, RowAt W j es t → (t ≠ 26 ∨ j < B) → RowAt w2 j es t := fun j es t r ht => (HGR.out.block j (by have := r.lt; simp; omega) (fun e => by
      obtain ⟨⟨fs, e1⟩, e2⟩ := own_row HA.out (by rw [← e])
      rcases ht with ht | ht
      · exact row_ne (r.alloc _) e1 ht rfl
      · omega)).trans (r.alloc _)
    refine ⟨rfl, ⟨_, _, _, _, (kw2 p _ 178 HW.out.1 (.inl (by decide))).set_other (row_ne (kw2 p _ 178 HW.out.1 (.inl (by decide))) HR2.out (by decide)) 1 _, fun h => absurd h (by omega), set_get (set_got H2.out.1) (by decide), set_got (set_get H2.out.2.1 (by decide)), set_get (set_get H2.out.2.2.1 (by decide)) (by decide), HR2.out.set 1 _, set_got H2.out.2.2.2, own_kept HO2.out fun g4 hg4 => Below.heap_setCell _ _ _ _ (by
      obtain ⟨⟨fs, e1⟩, _⟩ := own_row HO2.out hg4
      exact row_ne e1 HR2.out (by decide))⟩, fun j es t r h1 h2 h3 => (kw2 j es t (HW.out.2.2.1 j es t r h2) h1).set_other (row_ne (kw2 j es t (HW.out.2.2.1 j es t r h2) h1) HR2.out h3) 1 _, ?_⟩
    have b2 : Below b0 W w2 := Below.grown (w := (W.alloc (.cells #[.pointer (some ⟨s, 0, none⟩)] 26)).drew) (((Below.refl _ _).alloc (by have := HB.out; omega) _).drew) HGR.out (by have := HB.out; simp; omega) (fun j hj => by
      obtain ⟨_, e2⟩ := own_row HA.out (by rw [hj])
      have := HB.out
      omega)
    exact (HW.out.2.2.2.2.trans b2).setCell (by have := HB.out; simp; omega) _

set_option maxHeartbeats 4000000 in
theorem push11s (B p q g o m s k b0 : Nat) (cur : Value) (xs : List Value) (kd l : Int) (w : World) (hP : PS w B p q g o (m + 1) cur k xs) (hg0 : w.cell? ⟨g, o, none⟩ = some (ptr s)) (hg1 : w.cell? ⟨g, o + 1, none⟩ = some (.int .i32 l)) (hs : w.cell? ⟨s, 15, none⟩ = some (.int .u8 kd))
    (hk : k ≤ 100000) (hm : m ≤ 100000) (hm0 : 0 < m) (hB : B ≤ w.heap.size) (b1 : b0 ≤ B) (b2 : b0 ≤ p) (b3 : b0 ≤ q) :
    Calls Tryf.prog 11 #[ptr p, .int .u8 kd, .agg #[.int .i32 l]] w (Pushed B p q g o m s k xs b0 w) := by
  obtain ⟨i0, hi, hz0, hz1, hz2⟩ := info_parts info26
  obtain ⟨cs, ds, V, o', r1, ho, c177, c104, c105, r2, d1, own⟩ := hP
  obtain rfl := ho (by omega)
  have p177 := r1.cellv c177
  have p104 := r1.cellv c104
  have p105 := r1.cellv c105
  have q1 := r2.cellv d1
  have f177 := r1.frozen 177
  have f104 := r1.frozen 104
  have fq := r2.frozen 1
  have lp := r1.lt
  have lq := r2.lt
  have lg := cell_lt hg0
  have ls := cell_lt hs
  have H1 := Lib.hid (And.intro r1 (And.intro r2 own))
  have H2 := Lib.hid (And.intro c177 (And.intro c104 (And.intro c105 d1)))
  have HB := Lib.hid (And.intro hB (And.intro b1 (And.intro b2 b3)))
  clear r1 r2 own c177 c104 c105 d1 ho hB b1 b2 b3
  unfold ptr at *
  dsimp only at lg ls
  have hmz : ¬ m = 0 := by omega
  go_enter Tryf.func11, Tryf.ntmps11
  go_upto_region 8 with (fail)
  have R1 : RowAt ((((w.setCell ⟨p, 177, none⟩ (Value.slice (some { block := g, off := o' + 2 }) m m)).setCell ⟨p, 104, none⟩ (Value.pointer (some ⟨s, 0, none⟩))).alloc (Obj.cells #[Value.int IntKind.i32 l] 33)).alloc (Obj.cells #[Value.pointer (some ⟨s, 0, none⟩), Value.int IntKind.i32 l] 180)) p ((cs.setIfInBounds 177 (Value.slice (some { block := g, off := o' + 2 }) m m)).setIfInBounds 104 (Value.pointer (some ⟨s, 0, none⟩))) 178 := (((H1.out.1.set 177 _).set 104 _).alloc _).alloc _
  have K1 : ∀ j ds t, RowAt w j ds t → t ≠ 178 → RowAt ((((w.setCell ⟨p, 177, none⟩ (Value.slice (some { block := g, off := o' + 2 }) m m)).setCell ⟨p, 104, none⟩ (Value.pointer (some ⟨s, 0, none⟩))).alloc (Obj.cells #[Value.int IntKind.i32 l] 33)).alloc (Obj.cells #[Value.pointer (some ⟨s, 0, none⟩), Value.int IntKind.i32 l] 180)) j ds t := fun j ds t r ht => (((r.set_other (row_ne r H1.out.1 ht) 177 _).set_other (row_ne r H1.out.1 ht) 104 _).alloc _).alloc _
  have S1 : ((((w.setCell ⟨p, 177, none⟩ (Value.slice (some { block := g, off := o' + 2 }) m m)).setCell ⟨p, 104, none⟩ (Value.pointer (some ⟨s, 0, none⟩))).alloc (Obj.cells #[Value.int IntKind.i32 l] 33)).alloc (Obj.cells #[Value.pointer (some ⟨s, 0, none⟩), Value.int IntKind.i32 l] 180)).heap.size = w.heap.size + 1 + 1 := by simp
  have L1 : RowAt ((((w.setCell ⟨p, 177, none⟩ (Value.slice (some { block := g, off := o' + 2 }) m m)).setCell ⟨p, 104, none⟩ (Value.pointer (some ⟨s, 0, none⟩))).alloc (Obj.cells #[Value.int IntKind.i32 l] 33)).alloc (Obj.cells #[Value.pointer (some ⟨s, 0, none⟩), Value.int IntKind.i32 l] 180)) (w.heap.size + 1) #[Value.pointer (some ⟨s, 0, none⟩), Value.int IntKind.i32 l] 180 := by
    have := RowAt.new (((w.setCell ⟨p, 177, none⟩ (Value.slice (some { block := g, off := o' + 2 }) m m)).setCell ⟨p, 104, none⟩ (Value.pointer (some ⟨s, 0, none⟩))).alloc (Obj.cells #[Value.int IntKind.i32 l] 33)) #[Value.pointer (some ⟨s, 0, none⟩), Value.int IntKind.i32 l] 180
    simpa using this
  have B1 : Below b0 w ((((w.setCell ⟨p, 177, none⟩ (Value.slice (some { block := g, off := o' + 2 }) m m)).setCell ⟨p, 104, none⟩ (Value.pointer (some ⟨s, 0, none⟩))).alloc (Obj.cells #[Value.int IntKind.i32 l] 33)).alloc (Obj.cells #[Value.pointer (some ⟨s, 0, none⟩), Value.int IntKind.i32 l] 180)) := by
    have := HB.out
    exact ((((Below.refl b0 w).setCell this.2.2.1 _).setCell this.2.2.1 _).alloc (by simp; omega) _).alloc (by simp; omega) _
  have own1 := own_kept (w' := ((((w.setCell ⟨p, 177, none⟩ (Value.slice (some { block := g, off := o' + 2 }) m m)).setCell ⟨p, 104, none⟩ (Value.pointer (some ⟨s, 0, none⟩))).alloc (Obj.cells #[Value.int IntKind.i32 l] 33)).alloc (Obj.cells #[Value.pointer (some ⟨s, 0, none⟩), Value.int IntKind.i32 l] 180))) H1.out.2.2 fun g hg => by
    obtain ⟨⟨es, e1⟩, _⟩ := own_row H1.out.2.2 hg
    exact (K1 g es 26 e1 (by decide)).trans e1.symm
  have R2 := K1 q ds 51 H1.out.2.1 (by decide)
  clear p177 p104 p105 q1 f177 f104 fq lp lq lg ls hg0 hg1 hs
  generalize hW : ((((w.setCell ⟨p, 177, none⟩ (Value.slice (some { block := g, off := o' + 2 }) m m)).setCell ⟨p, 104, none⟩ (Value.pointer (some ⟨s, 0, none⟩))).alloc (Obj.cells #[Value.int IntKind.i32 l] 33)).alloc (Obj.cells #[Value.pointer (some ⟨s, 0, none⟩), Value.int IntKind.i32 l] 180)) = W at R1 K1 S1 L1 B1 own1 R2 ⊢
  clear hW
  have q1 := R2.cellv H2.out.2.2.2
  have fq := R2.frozen 1
  have l0 := L1.cellv (j := 0) (v := .pointer (some ⟨s, 0, none⟩)) rfl
  have lq := R2.lt
  have lW : w.heap.size + 1 < W.heap.size := by omega
  have HA : Hid (((W.alloc (.cells #[.pointer (some ⟨s, 0, none⟩)] 26)).drew).ownsRow B 26 1 V k xs) := own_kept own1 fun g hg => by
    obtain ⟨⟨es, e1⟩, _⟩ := own_row own1 hg
    exact Below.heap_alloc _ _ _ e1.lt
  have HNW : Hid (∀ j u, [Value.pointer (some ⟨s, 0, none⟩)][j]? = some u → ((W.alloc (.cells #[.pointer (some ⟨s, 0, none⟩)] 26)).drew).cell? ((⟨W.heap.size, 0, none⟩ : Addr).add j) = some u) := cell_one_new W _ _
  have HN : Hid (V.ownBlock ≠ some q) := fun hg => by
    obtain ⟨⟨es, e1⟩, _⟩ := own_row own1 hg
    exact row_ne e1 R2 (by decide) rfl
  have HW := Lib.hid (And.intro R1 (And.intro R2 (And.intro K1 (And.intro S1 B1))))
  clear R1 R2 K1 S1 B1 own1 L1
  go_region_law (refine step_append_lies _ rfl (.tmp 80) (.tmp 83) 25 rfl B 26 i0 _ 1 8 Tryf.underlying25 hi hz0 hz1 hz2 rfl (by decide) V k xs (by simp [Act.eval, Act.put]) HA.out ⟨W.heap.size, 0, none⟩ 1 1 [.pointer (some ⟨s, 0, none⟩)] (by simp [Act.eval, Act.put]) rfl HNW.out (by simp [Value.oneCell']) (by decide) (by unfold maxLen; omega) (by omega) (by have := HB.out; simp; omega) (W.heap.size + 1) (by simp) ?_; intro g2 cap w2 hown2 hgrow2 hat2 hlt2; have r2 : RowAt w2 q ds 51 := (hgrow2.block q (by simp; omega) (fun e => HN.out e.symm)).trans (HW.out.2.1.alloc _); have k2 := r2.cellv H2.out.2.2.2; have g3 := r2.frozen 1; have HO2 := Lib.hid hown2; have HGR := Lib.hid hgrow2; have HR2 := Lib.hid r2; clear hown2 hgrow2 hat2 r2)
  all_goals
    trace_state
    go_end0
    have kw2 : ∀ j es t, RowAt W j es t → (t ≠ 26 ∨ j < B) → RowAt w2 j es t := fun j es t r ht => (HGR.out.block j (by have := r.lt; simp; omega) (fun e => by
      obtain ⟨⟨fs, e1⟩, e2⟩ := own_row HA.out (by rw [← e])
      rcases ht with ht | ht
      · exact row_ne (r.alloc _) e1 ht rfl
      · omega)).trans (r.alloc _)
    refine ⟨rfl, ⟨_, _, _, _, (kw2 p _ 178 HW.out.1 (.inl (by decide))).set_other (row_ne (kw2 p _ 178 HW.out.1 (.inl (by decide))) HR2.out (by decide)) 1 _, fun _ => rfl, set_get (set_got H2.out.1) (by decide), set_got (set_get H2.out.2.1 (by decide)), set_get (set_get H2.out.2.2.1 (by decide)) (by decide), HR2.out.set 1 _, set_got H2.out.2.2.2, own_kept HO2.out fun g4 hg4 => Below.heap_setCell _ _ _ _ (by
      obtain ⟨⟨fs, e1⟩, _⟩ := own_row HO2.out hg4
      exact row_ne e1 HR2.out (by decide))⟩, fun j es t r h1 h2 h3 => (kw2 j es t (HW.out.2.2.1 j es t r h2) h1).set_other (row_ne (kw2 j es t (HW.out.2.2.1 j es t r h2) h1) HR2.out h3) 1 _, ?_⟩
    have b2 : Below b0 W w2 := Below.grown (w := (W.alloc (.cells #[.pointer (some ⟨s, 0, none⟩)] 26)).drew) (((Below.refl _ _).alloc (by have := HB.out; omega) _).drew) HGR.out (by have := HB.out; simp; omega) (fun j hj => by
      obtain ⟨_, e2⟩ := own_row HA.out (by rw [hj])
      have := HB.out
      omega)
    exact (HW.out.2.2.2.2.trans b2).setCell (by have := HB.out; simp; omega) _

end Go.Proofs.YthmfjhadkmeldacFmt
