import Derived.Test.YthmfjhadkmeldacFmtKit
import Derived.Test.YthmfjhadkmeldacFmtPsA
namespace Go.Proofs.YthmfjhadkmeldacFmt
open Go.ChangeShapes Go.WideShapes Go.ChangeAt Go.RowKit
set_option linter.unusedVariables false
set_option maxRecDepth 100000
set_option maxHeartbeats 2000000

open Go.Extern
theorem push11 (B p q g o m s k b0 : Nat) (cur : Value) (xs : List Value) (kd l : Int) (w : World) (hP : PS w B p q g o (m + 1) cur k xs) (hg0 : w.cell? ⟨g, o, none⟩ = some (ptr s)) (hg1 : w.cell? ⟨g, o + 1, none⟩ = some (.int .i32 l)) (hs : w.cell? ⟨s, 15, none⟩ = some (.int .u8 kd))
    (hk : k ≤ 100000) (hm : m ≤ 100000) (hB : B ≤ w.heap.size) (b1 : b0 ≤ B) (b2 : b0 ≤ p) (b3 : b0 ≤ q) :
    Calls Tryf.prog 11 #[ptr p, .int .u8 kd, .agg #[.int .i32 l]] w (Pushed B p q g o m s k xs b0 w) := by
  rcases Nat.eq_zero_or_pos m with rfl | h
  · exact push11z B p q g o s k b0 cur xs kd l w hP hg0 hg1 hs hk hB b1 b2 b3
  · exact push11s B p q g o m s k b0 cur xs kd l w hP hg0 hg1 hs hk hm h hB b1 b2 b3
theorem push8 (B p q g o m s k b0 : Nat) (cur : Value) (xs : List Value) (kd l : Int) (w : World) (hP : PS w B p q g o (m + 1) cur k xs) (hg0 : w.cell? ⟨g, o, none⟩ = some (ptr s)) (hg1 : w.cell? ⟨g, o + 1, none⟩ = some (.int .i32 l)) (hs : w.cell? ⟨s, 15, none⟩ = some (.int .u8 kd))
    (hk : k ≤ 100000) (hm : m ≤ 100000) (hB : B ≤ w.heap.size) (b1 : b0 ≤ B) (b2 : b0 ≤ p) (b3 : b0 ≤ q) :
    Calls Tryf.prog 8 #[ptr p, .int .u8 kd, .int .i32 l] w (Pushed B p q g o m s k xs b0 w) := by
  have H := Lib.hid (push11 B p q g o m s k b0 cur xs kd l w hP hg0 hg1 hs hk hm hB b1 b2 b3)
  clear hP hg0 hg1 hs hk hm hB b1 b2 b3
  go_enter Tryf.func8, Tryf.ntmps8
  go_wp2_with fail
  refine H.out.mono ?_
  rintro e w1 ⟨rfl, h1⟩
  have h1' := Lib.hid h1
  clear h1
  go_wp2_with fail
  go_end0
  exact ⟨rfl, h1'.out⟩
theorem len9 (p : Nat) (a : Option Addr) (m c : Nat) (w : World) (h : w.cell? ⟨p, 177, none⟩ = some (.slice a m c)) : Calls Tryf.prog 9 #[ptr p] w fun e w' => e = .returned (.int .i64 m) ∧ w = w' := by
  unfold ptr
  go_enter Tryf.func9, Tryf.ntmps9
  go_wp2_with fail
  go_ret
  exact ⟨rfl, rfl⟩
theorem cur10 (p : Nat) (v : Value) (s : Nat) (hv : v = ptr s) (w : World) (h : w.cell? ⟨p, 104, none⟩ = some v) : Calls Tryf.prog 10 #[ptr p] w fun e w' => e = .returned (ptr s) ∧ w = w' := by
  subst hv
  unfold ptr at *
  go_enter Tryf.func10, Tryf.ntmps10
  go_wp2_with fail
  go_ret
  exact ⟨rfl, rfl⟩
theorem part7 (p q : Nat) (v : Value) (w : World) (h : w.cell? ⟨p, 105, none⟩ = some v) (hf : w.frozen? ⟨p, 105, none⟩ = false) : Calls Tryf.prog 7 #[ptr p, ptr q] w fun e w' => e = .returned (.tuple #[]) ∧ w' = w.setCell ⟨p, 105, none⟩ (ptr q) := by
  unfold ptr at *
  go_enter Tryf.func7, Tryf.ntmps7
  go_wp2_with fail
  go_end0
  exact ⟨rfl, rfl⟩
noncomputable def Z254 : Value := ((Tryf.prog.info? 254).bind (·.zero)).getD undef
noncomputable def S254 : Nat × Nat := (((Tryf.prog.info? 254).map fun i => (i.size, i.bytes)).getD (0, 0))
theorem info254 : (Tryf.prog.info? 254).map (fun i => (i.zero, i.size, i.bytes)) = some (some Z254, S254.1, S254.2) := by kernel_rfl
theorem build178k (w : World) : (Instr.build 178 #[]).run Tryf.prog w = .ok (.agg PZ178) w := by kernel_rfl
/-- A new parser. -/
def NewPar (cur : Value) (w : World) (e : Ending) (w' : World) : Prop := ∃ p cs, e = .returned (ptr p) ∧ RowAt w' p cs 178 ∧ cs[104]? = some cur ∧ cs[105]? = some (.pointer none) ∧ cs[177]? = some (.slice none 0 0) ∧ w.heap.size ≤ p ∧ Below w.heap.size w w'
set_option maxHeartbeats 4000000 in
theorem new5 (c : Nat) (w : World) : Calls Tryf.prog 5 #[.int .u32 0, .bool false, .int .i64 0, ptr c, ptr c] w (NewPar (ptr c) w) := by
  obtain ⟨i0, hi, hz0, hz1, hz2⟩ := info_parts info254
  unfold ptr
  go_enter Tryf.func5, Tryf.ntmps5
  go_upto_region 2 with (refine wpList_build rfl 178 _ rfl #[] (by simp [Act.eval, Act.put]) _ (build178k _) ?_)
  have r0 : RowAt (w.alloc (.cells PZ178 178)) w.heap.size PZ178 178 := RowAt.new w _ _
  have b0 : Below w.heap.size w (w.alloc (.cells PZ178 178)) := (Below.refl _ _).alloc (Nat.le_refl _) _
  generalize w.alloc (.cells PZ178 178) = w0 at r0 b0 ⊢
  obtain ⟨p, hp⟩ : ∃ p, p = w.heap.size := ⟨_, rfl⟩
  rw [← hp] at r0 b0 ⊢
  have HP := Lib.hid hp
  clear hp
  obtain ⟨cs0, hcs0⟩ : ∃ cs0, PZ178 = cs0 := ⟨_, rfl⟩
  have a104 : cs0[104]? = some (.pointer none) := hcs0 ▸ PZ178_104
  have a105 : cs0[105]? = some (.pointer none) := hcs0 ▸ PZ178_105
  have a106 : cs0[106]? = some (.slice none 0 0) := hcs0 ▸ PZ178_106
  have a177 : cs0[177]? = some (.slice none 0 0) := hcs0 ▸ PZ178_177
  have a187 : cs0[187]? = some (.pointer none) := hcs0 ▸ PZ178_187
  have a66 : cs0[66]? = some (.int .u32 0) := hcs0 ▸ PZ178_66
  have a32 : cs0[32]? = some (.bool false) := hcs0 ▸ PZ178_32
  have HC := Lib.hid (And.intro a104 (And.intro a105 (And.intro a177 (And.intro a106 a187))))
  rw [hcs0] at r0
  have c66 := r0.cellv a66
  have c32 := r0.cellv a32
  have f66 := r0.frozen 66
  have f32 := r0.frozen 32
  have lp := r0.lt
  have H0 := Lib.hid (And.intro r0 b0)
  clear hcs0 a104 a105 a106 a177 a187 a66 a32 r0 b0
  go_upto_region 4 with (fail)
  have r1 : RowAt ((w0.setCell ⟨p, 66, none⟩ (.int .u32 0)).setCell ⟨p, 32, none⟩ (.bool false)) p ((cs0.setIfInBounds 66 (.int .u32 0)).setIfInBounds 32 (.bool false)) 178 := (H0.out.1.set 66 _).set 32 _
  have b1 : Below p w ((w0.setCell ⟨p, 66, none⟩ (.int .u32 0)).setCell ⟨p, 32, none⟩ (.bool false)) := (H0.out.2.setCell (Nat.le_refl _) _).setCell (Nat.le_refl _) _
  generalize ((w0.setCell ⟨p, 66, none⟩ (.int .u32 0)).setCell ⟨p, 32, none⟩ (.bool false)) = w1 at r1 b1 ⊢
  have lp1 := r1.lt
  have H1 := Lib.hid (And.intro r1 b1)
  clear r1 b1 c66 c32 f66 f32 lp H0
  obtain ⟨cs1, hcs1⟩ : ∃ cs1, ((cs0.setIfInBounds 66 (.int .u32 0)).setIfInBounds 32 (.bool false)) = cs1 := ⟨_, rfl⟩
  have HC1 : Hid (cs1[104]? = some (.pointer none) ∧ cs1[105]? = some (.pointer none) ∧ cs1[177]? = some (.slice none 0 0) ∧ cs1[106]? = some (.slice none 0 0) ∧ cs1[187]? = some (.pointer none)) := by
    have := HC.out
    rw [← hcs1]
    exact ⟨set_get (set_get this.1 (by decide)) (by decide), set_get (set_get this.2.1 (by decide)) (by decide), set_get (set_get this.2.2.1 (by decide)) (by decide), set_get (set_get this.2.2.2.1 (by decide)) (by decide), set_get (set_get this.2.2.2.2 (by decide)) (by decide)⟩
  rw [hcs1] at H1
  clear hcs1 HC
  go_upto_region 5 with (at_make; refine wpList_make_full _ rfl _ _ 121 rfl p 254 i0 _ S254.1 Tryf.underlying121 hi hz0 hz1 .i64 .i64 _ _ 0 rfl rfl rfl rfl (by omega) (by unfold maxLen; omega) (by omega) ?_; intro w2 hown hgrow; have r2 : RowAt w2 p cs1 178 := (hgrow.block p lp1 (fun e => by cases e)).trans H1.out.1; have c106 := r2.cellv HC1.out.2.2.2.1; have f106 := r2.frozen 106; have lp2 := r2.lt; have b2 : Below p w w2 := H1.out.2.trans ((Below.refl p w1).grown hgrow (by omega) (fun k hk => by cases hk)); have H2 := Lib.hid (And.intro r2 b2); clear r2 b2 hown hgrow)
  have r3 := H2.out.1.set 106 (.slice (some ⟨w1.heap.size, 0, none⟩) 0 0)
  have b3 : Below p w (w2.setCell ⟨p, 106, none⟩ (.slice (some ⟨w1.heap.size, 0, none⟩) 0 0)) := H2.out.2.setCell (Nat.le_refl _) _
  generalize w2.setCell ⟨p, 106, none⟩ (.slice (some ⟨w1.heap.size, 0, none⟩) 0 0) = w3 at r3 b3 ⊢
  have d104 := set_get (j := 106) (u := (.slice (some ⟨w1.heap.size, 0, none⟩) 0 0)) HC1.out.1 (by decide)
  have d105 := set_get (j := 106) (u := (.slice (some ⟨w1.heap.size, 0, none⟩) 0 0)) HC1.out.2.1 (by decide)
  have d177 := set_get (j := 106) (u := (.slice (some ⟨w1.heap.size, 0, none⟩) 0 0)) HC1.out.2.2.1 (by decide)
  have d187 := set_get (j := 106) (u := (.slice (some ⟨w1.heap.size, 0, none⟩) 0 0)) HC1.out.2.2.2.2 (by decide)
  have c104 := r3.cellv d104
  have c187 := r3.cellv d187
  have f104 := r3.frozen 104
  have f187 := r3.frozen 187
  have lp3 := r3.lt
  have HD := Lib.hid (And.intro d104 (And.intro d105 d177))
  have H3 := Lib.hid (And.intro r3 b3)
  clear H2 HC1 d104 d105 d177 d187 c106 f106 r3 b3
  go_wp2_with fail
  go_ret
  refine ⟨p, _, rfl, (H3.out.1.set 104 _).set 187 _, set_get (set_got HD.out.1) (by decide), set_get (set_get HD.out.2.1 (by decide)) (by decide), set_get (set_get HD.out.2.2 (by decide)) (by decide), by rw [HP.out]; exact Nat.le_refl _, ?_⟩
  rw [← HP.out]
  exact (H3.out.2.setCell (Nat.le_refl _) _).setCell (Nat.le_refl _) _
theorem info180 : (Tryf.prog.info? 180).map (fun i => (i.zero, i.size, i.bytes)) = some (some (.agg #[.pointer none, .int .i32 0]), 2, 16) := by kernel_rfl
/-- The order: scope and place of each. -/
def ord (S : Nat → Nat) (Lz : Nat → Int) (i j : Nat) : Value := if j = 0 then ptr (S i) else .int .i32 (Lz i)

end Go.Proofs.YthmfjhadkmeldacFmt
