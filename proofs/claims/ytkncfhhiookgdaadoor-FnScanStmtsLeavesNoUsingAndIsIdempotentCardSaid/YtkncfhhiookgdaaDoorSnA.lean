import Derived.Test.YtkncfhhiookgdaaDoorKit
import Derived.Test.YtkncfhhiookgdaaDoorRow
import Derived.Test.YtkncfhhiookgdaaDoorCells
import Derived.Test.YtkncfhhiookgdaaDoorRec
import Derived.Test.YtkncfhhiookgdaaDoorBig
import Derived.Deep.AppendLies
import Derived.Deep.RegionLaw
namespace Go.Proofs.YtkncfhhiookgdaaDoor
open Go.ChangeShapes Go.WideShapes Go.ChangeAt Go.RowKit
set_option linter.unusedVariables false
set_option maxRecDepth 100000
set_option maxHeartbeats 2000000

open Go.Extern
theorem row_ne {w : World} {a b : Nat} {cs ds : Array Value} {s t : TypeId} (h : RowAt w a cs s) (g : RowAt w b ds t) (hn : s ≠ t) : a ≠ b := by
  intro e
  subst e
  unfold RowAt at h g
  rw [h] at g
  injection g with g
  injection g with _ g
  exact hn g
theorem own_kept {w w' : World} {B n : Nat} {e : TypeId} {size : Nat} {v : Value} {xs : List Value} (h : w.ownsRow B e size v n xs) (hk : ∀ g, v.ownBlock = some g → w'.heap[g]? = w.heap[g]?) : w'.ownsRow B e size v n xs := by
  obtain ⟨h1, h2⟩ := h
  refine ⟨h1, ?_⟩
  rcases h2 with h2 | ⟨g, cap, cur, hv, hb, hh, h3⟩
  · exact .inl h2
  · exact .inr ⟨g, cap, cur, hv, hb, (hk g (by rw [hv]; rfl)).trans hh, h3⟩
theorem own_row {w : World} {B n g size : Nat} {e : TypeId} {v : Value} {xs : List Value} (h : w.ownsRow B e size v n xs) (hg : v.ownBlock = some g) : (∃ cs, RowAt w g cs e) ∧ B ≤ g := by
  rcases h.2 with ⟨rfl, _⟩ | ⟨g', cap, cur, rfl, hb, hh, _⟩
  · cases hg
  · have : g' = g := by simpa [Value.ownBlock] using hg
    subst this
    exact ⟨⟨cur, hh⟩, hb⟩
theorem own_slice {w : World} {B n size : Nat} {e : TypeId} {v : Value} {xs : List Value} (h : w.ownsRow B e size v n xs) : ∃ x cap, v = .slice x n cap := by
  rcases h.2 with ⟨hv, hx⟩ | ⟨g, cap, cur, hv, _⟩
  · exact ⟨none, 0, by rw [hv, hx]⟩
  · exact ⟨_, cap, hv⟩
theorem set_get {cs : Array Value} {j k : Nat} {u v : Value} (h : cs[k]? = some v) (hn : j ≠ k) : (cs.setIfInBounds j u)[k]? = some v := by
  rw [Array.getElem?_setIfInBounds, if_neg hn]; exact h
theorem set_got {cs : Array Value} {j : Nat} {u v : Value} (h : cs[j]? = some v) : (cs.setIfInBounds j u)[j]? = some u := by
  have hl : j < cs.size := (Array.getElem?_eq_some_iff.1 h).1
  rw [Array.getElem?_setIfInBounds, if_pos rfl, if_pos hl]
/-- A pointer to a block's first cell. -/
def ptr (b : Nat) : Value := .pointer (some ⟨b, 0, none⟩)
def IR (w : World) : Prop := w.cell? ⟨0, 0, none⟩ = some (.int .u32 4294967295) ∧ w.cell? ⟨0, 1, none⟩ = some (.int .u32 4294967295)
theorem IR.below {w w' : World} (h : IR w) (h' : Below w.heap.size w w') : IR w' := ⟨later h.1 h', later h.2 h'⟩
/-- What a parser holds that the code asks. -/
structure Par (cs : Array Value) (cu : Nat) (f md : Int) (mi ww : Bool) : Prop where
  c66 : cs[66]? = some (.int .u32 0)
  c32 : cs[32]? = some (.bool false)
  c104 : cs[104]? = some (ptr cu)
  c23 : cs[23]? = some (.int .u64 f)
  c34 : cs[34]? = some (.int .u8 md)
  c41 : cs[41]? = some (.bool mi)
  c352 : cs[352]? = some (.bool ww)
/-- The parser: its flags, its k symbols. -/
def PS (w : World) (B p cu : Nat) (f md : Int) (mi ww : Bool) (k : Nat) : Prop := ∃ cs V xs, RowAt w p cs 194 ∧ Par cs cu f md mi ww ∧ cs[106]? = some V ∧ w.ownsRow B 229 10 V k xs
/-- Rows but the parser's and the symbols'. -/
def Kp (w w' : World) : Prop := ∀ j cs t, RowAt w j cs t → t ≠ 229 → t ≠ 194 → RowAt w' j cs t
theorem PS.below {w w' : World} {B p cu k : Nat} {f md : Int} {mi ww : Bool} (h : PS w B p cu f md mi ww k) (hb : Below w.heap.size w w') : PS w' B p cu f md mi ww k := by
  obtain ⟨cs, V, xs, h1, h2, h3, h4⟩ := h
  refine ⟨cs, V, xs, h1.below hb h1.lt, h2, h3, own_kept h4 fun g hg => ?_⟩
  obtain ⟨⟨es, e1⟩, _⟩ := own_row h4 hg
  exact hb.block g e1.lt
theorem info229 : (Tryd.prog.info? 229).map (fun i => (i.zero, i.size, i.bytes)) = some (some (.agg #[.pointer none, .string ⟨#[]⟩, .int .u32 0, .int .u32 0, .int .u32 0, .int .u32 0, .int .u32 0, .int .u16 0, .int .u8 0, .int .u8 0]), 10, 48) := by kernel_rfl
/-- A symbol of kind 27 by the name _stack. -/
def sym : List Value := [.pointer none, .string ⟨#[95, 115, 116, 97, 99, 107]⟩, .int .u32 4294967295, .int .u32 4294967295, .int .u32 0, .int .u32 0, .int .u32 0, .int .u16 0, .int .u8 27, .int .u8 0]
def NewSym (B p cu : Nat) (f md : Int) (mi ww : Bool) (k b0 : Nat) (w : World) (e : Ending) (w' : World) : Prop :=
  e = .returned (.agg #[.int .u32 0, .int .u32 k]) ∧ PS w' B p cu f md mi ww (k + 1) ∧ Kp w w' ∧ Below b0 w w'
set_option maxHeartbeats 4000000 in
theorem sym21 (B p cu : Nat) (f md : Int) (mi ww : Bool) (k b0 : Nat) (w : World) (hP : PS w B p cu f md mi ww k) (hI : IR w) (hk : k ≤ 1000) (hB : B ≤ w.heap.size) (b1 : b0 ≤ B) (b2 : b0 ≤ p) :
    Calls Tryd.prog 21 #[ptr p, .int .u8 27, .string ⟨#[95, 115, 116, 97, 99, 107]⟩] w (NewSym B p cu f md mi ww k b0 w) := by
  obtain ⟨i0, hi, hz0, hz1, hz2⟩ := info_parts info229
  obtain ⟨cs, V, xs, r1, hp, c106, own⟩ := hP
  obtain ⟨ov, cap, rfl⟩ := own_slice own
  have p106 := r1.cellv c106
  have p66 := r1.cellv hp.c66
  have p32 := r1.cellv hp.c32
  have f106 := r1.frozen 106
  have lp := r1.lt
  have HB := Lib.hid (And.intro hB (And.intro b1 b2))
  have H1 := Lib.hid (And.intro r1 (And.intro hp (And.intro c106 own)))
  have HI := Lib.hid hI
  clear r1 hp c106 own hI hB b1 b2
  unfold ptr
  go_enter Tryd.func21, Tryd.ntmps21
  go_wp2_with fail
  have hw : IntKind.u32.wrap (k : Int) = (k : Int) := by rw [IntKind.wrap_u32]; omega
  go_region
  obtain ⟨W, hW⟩ : ∃ W, ((w.alloc (Obj.cells #[Value.int IntKind.u32 0, Value.int IntKind.u32 0] 37)).alloc (Obj.cells #[Value.int IntKind.u32 0, Value.int IntKind.u32 (k : Int)] 37)).drew = W := ⟨_, rfl⟩
  have bW : Below w.heap.size w W := hW ▸ (((Below.refl w.heap.size w).alloc (Nat.le_refl _) _).alloc (by simp) _).drew
  have rr : RowAt W w.heap.size #[Value.int IntKind.u32 0, Value.int IntKind.u32 0] 37 := hW ▸ (RowAt.new w #[Value.int IntKind.u32 0, Value.int IntKind.u32 0] 37).alloc _
  have rq : RowAt W (w.heap.size + 1) #[Value.int IntKind.u32 0, Value.int IntKind.u32 (k : Int)] 37 := by
    have := RowAt.new (w.alloc (Obj.cells #[Value.int IntKind.u32 0, Value.int IntKind.u32 0] 37)) #[Value.int IntKind.u32 0, Value.int IntKind.u32 (k : Int)] 37
    rw [← hW]
    simp only [World.size_alloc] at this
    exact this
  have zW : W.heap.size = w.heap.size + 1 + 1 := by rw [← hW]; simp
  rw [hW]
  clear hW
  obtain ⟨r, hr⟩ : ∃ r, r = w.heap.size := ⟨_, rfl⟩
  rw [← hr] at rr rq zW ⊢
  have r1 := H1.out.1.below bW H1.out.1.lt
  have own1 := own_kept (w' := W) H1.out.2.2.2 fun g hg => by
    obtain ⟨⟨es, e1⟩, _⟩ := own_row H1.out.2.2.2 hg
    exact bW.block g e1.lt
  have hI1 := HI.out.below bW
  have i0' := hI1.1
  have i1' := hI1.2
  have q106 := r1.cellv H1.out.2.2.1
  have g106 := r1.frozen 106
  have lp1 := r1.lt
  have HA : Hid (((W.alloc (.cells sym.toArray 229)).drew).ownsRow B 229 10 (.slice ov k cap) k xs) := own_kept own1 fun g hg => by
    obtain ⟨⟨es, e1⟩, _⟩ := own_row own1 hg
    exact Below.heap_alloc _ _ _ e1.lt
  have HNW : Hid (∀ j u, sym[j]? = some u → ((W.alloc (.cells sym.toArray 229)).drew).cell? ((⟨W.heap.size, 0, none⟩ : Addr).add j) = some u) := fun j u hj => by
    rw [addr_add, Nat.zero_add]
    exact ((RowAt.new W sym.toArray 229).drewN 1).cellv (by simpa using hj)
  have HN : Hid ((Value.slice ov k cap).ownBlock ≠ some p) := fun hg => by
    obtain ⟨⟨es, e1⟩, _⟩ := own_row own1 hg
    exact row_ne e1 r1 (by decide) rfl
  have HR := Lib.hid (And.intro hr (And.intro zW (And.intro bW (And.intro r1 (And.intro rr rq)))))
  have lr : r < W.heap.size := by omega
  have lr1 : r + 1 < W.heap.size := by omega
  unfold sym at HA HNW
  clear hr zW bW r1 own1 rr rq hI1 p106 p66 p32 f106 lp
  go_wp2_with fail
  go_region_law (refine step_append_lies _ rfl (.tmp 24) (.tmp 29) 138 rfl B 229 i0 _ 10 48 Tryd.underlying138 hi hz0 hz1 hz2 rfl (by decide) _ k xs (by simp [Act.eval, Act.put]) HA.out ⟨W.heap.size, 0, none⟩ 1 1 _ (by simp [Act.eval, Act.put]) (by rfl) HNW.out (by simp [Value.oneCell']) (by decide) (by unfold maxLen; omega) (by omega) (by have := HB.out; have := HR.out; simp; omega) (W.heap.size + 1) (by simp) ?_; intro g2 cap2 w2 hown2 hgrow2 hat2 hlt2; have kw2 : ∀ j es t, RowAt W j es t → t ≠ 229 → RowAt w2 j es t := (fun j es t r' ht => (hgrow2.block j (by have := r'.lt; simp; omega) (fun e => by obtain ⟨⟨fs, e1⟩, _⟩ := own_row HA.out (by rw [← e]); exact row_ne (r'.alloc _) e1 ht rfl)).trans (r'.alloc _)); have r2 := kw2 p _ _ HR.out.2.2.2.1 (by decide); have k2 := r2.cellv H1.out.2.2.1; have g3 := r2.frozen 106; have lp2 := r2.lt; have HO2 := Lib.hid hown2; have HGR := Lib.hid (And.intro hgrow2 kw2); have HR2 := Lib.hid r2; clear hown2 hgrow2 hat2 r2 kw2)
  all_goals
    obtain ⟨W3, hW3⟩ : ∃ W3, w2.setCell ⟨p, 106, none⟩ (.slice (some ⟨g2, 0, none⟩) (k + 1) cap2) = W3 := ⟨_, rfl⟩
    have r3 : RowAt W3 p (cs.setIfInBounds 106 (.slice (some ⟨g2, 0, none⟩) (k + 1) cap2)) 194 := hW3 ▸ HR2.out.set 106 _
    have k3 : ∀ j es t, RowAt W j es t → t ≠ 229 → t ≠ 194 → RowAt W3 j es t := fun j es t r' h1 h2 => hW3 ▸ (HGR.out.2 j es t r' h1).set_other (row_ne (HGR.out.2 j es t r' h1) HR2.out h2) 106 _
    have o3 : W3.ownsRow B 229 10 (.slice (some ⟨g2, 0, none⟩) (k + 1) cap2) (k + 1) (xs ++ sym) := own_kept HO2.out fun g4 hg4 => hW3 ▸ Below.heap_setCell _ _ _ _ (by
      obtain ⟨⟨fs, e1⟩, _⟩ := own_row HO2.out hg4
      exact row_ne e1 HR2.out (by decide))
    have b3 : Below b0 w W3 := by
      have hb := HB.out
      have b2' : Below b0 W w2 := Below.grown (w := (W.alloc (.cells sym.toArray 229)).drew) (((Below.refl _ _).alloc (by have := HR.out; omega) _).drew) HGR.out.1 (by have := HR.out; simp; omega) (fun j hj => by
        obtain ⟨_, e2⟩ := own_row HA.out (by rw [hj])
        omega)
      rw [← hW3]
      exact ((HR.out.2.2.1.mono (by omega)).trans b2').setCell (by simp; omega) _
    rw [hW3]
    have s0 := (k3 _ _ _ HR.out.2.2.2.2.1 (by decide) (by decide)).cellv (j := 0) (v := .int .u32 0) rfl
    have s1 := (k3 _ _ _ HR.out.2.2.2.2.1 (by decide) (by decide)).cellv (j := 1) (v := .int .u32 0) rfl
    have t0 := (k3 _ _ _ HR.out.2.2.2.2.2 (by decide) (by decide)).cellv (j := 0) (v := .int .u32 0) rfl
    have t1 := (k3 _ _ _ HR.out.2.2.2.2.2 (by decide) (by decide)).cellv (j := 1) (v := .int .u32 (k : Int)) rfl
    have fs0 := (k3 _ _ _ HR.out.2.2.2.2.1 (by decide) (by decide)).frozen 0
    have fs1 := (k3 _ _ _ HR.out.2.2.2.2.1 (by decide) (by decide)).frozen 1
    have q32 := r3.cellv (set_get (u := .slice (some ⟨g2, 0, none⟩) (k + 1) cap2) H1.out.2.1.c32 (by decide))
    have lr3 := (k3 _ _ _ HR.out.2.2.2.2.1 (by decide) (by decide)).lt
    have lp3 := r3.lt
    have HE := Lib.hid (And.intro r3 (And.intro k3 (And.intro o3 b3)))
    have HRR := Lib.hid (k3 _ _ _ HR.out.2.2.2.2.1 (by decide) (by decide))
    clear hW3 r3 k3 o3 b3 k2 g3 lp2 hlt2 q106 g106 i0' i1' lp1
    go_wp2_with fail
    have e0 := (HRR.out.set 0 (.int .u32 0)).set 1 (.int .u32 (k : Int))
    have e1 := e0.cellv (j := 0) (v := .int .u32 0) rfl
    have e2 := e0.cellv (j := 1) (v := .int .u32 (k : Int)) rfl
    refine bodyPost_ret (v := .agg #[.int .u32 0, .int .u32 (k : Int)]) (by simp only [results, Tryd.results21]; simp [go_sem, e1, e2]) rfl ?_
    have hp := H1.out.2.1
    have hpr : p ≠ r := row_ne HE.out.1 HRR.out (by decide)
    refine ⟨rfl, ⟨_, _, _, (HE.out.1.set_other hpr 0 _).set_other hpr 1 _, ⟨set_get hp.c66 (by decide), set_get hp.c32 (by decide), set_get hp.c104 (by decide), set_get hp.c23 (by decide), set_get hp.c34 (by decide), set_get hp.c41 (by decide), set_get hp.c352 (by decide)⟩, set_got H1.out.2.2.1, own_kept (own_kept HE.out.2.2.1 fun g4 hg4 => Below.heap_setCell _ _ _ _ (by
        obtain ⟨⟨fs, e1⟩, _⟩ := own_row HE.out.2.2.1 hg4
        exact row_ne e1 HRR.out (by decide))) fun g4 hg4 => Below.heap_setCell _ _ _ _ (by
        obtain ⟨⟨fs, e1⟩, _⟩ := own_row HE.out.2.2.1 hg4
        exact row_ne e1 HRR.out (by decide))⟩, fun j es t r' h1 h2 => ?_, ?_⟩
    · have hj : j ≠ r := by have := HR.out.1; have := r'.lt; omega
      exact ((HE.out.2.1 _ _ _ (r'.below HR.out.2.2.1 r'.lt) h1 h2).set_other hj 0 _).set_other hj 1 _
    · have hb := HB.out
      have hr := HR.out.1
      exact (HE.out.2.2.2.setCell (by show b0 ≤ r; omega) _).setCell (by show b0 ≤ r; omega) _

end Go.Proofs.YtkncfhhiookgdaaDoor
