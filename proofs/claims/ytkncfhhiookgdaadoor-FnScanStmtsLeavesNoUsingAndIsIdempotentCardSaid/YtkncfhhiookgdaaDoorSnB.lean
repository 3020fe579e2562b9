import Derived.Test.YtkncfhhiookgdaaDoorKit
import Derived.Test.YtkncfhhiookgdaaDoorSnA
import Derived.Laws.Pointers
namespace Go.Proofs.YtkncfhhiookgdaaDoor
open Go.ChangeShapes Go.WideShapes Go.ChangeAt Go.RowKit
set_option linter.unusedVariables false
set_option maxRecDepth 100000
set_option maxHeartbeats 2000000

open Go.Extern
def NewCtx (B p cu : Nat) (f md : Int) (mi ww : Bool) (k b0 : Nat) (w : World) (e : Ending) (w' : World) : Prop :=
  e = .returned (.agg #[.int .i32 0, .int .u32 0, .int .u32 k, .bool false]) ∧ PS w' B p cu f md mi ww (k + 1) ∧ Kp w w' ∧ Below b0 w w'
theorem PS.other {w : World} {B p cu k : Nat} {f md : Int} {mi ww : Bool} (h : PS w B p cu f md mi ww k) {r : Nat} {es : Array Value} {t : TypeId} (hr : RowAt w r es t) (h1 : t ≠ 229) (h2 : t ≠ 194) (j : Nat) (v : Value) : PS (w.setCell ⟨r, j, none⟩ v) B p cu f md mi ww k := by
  obtain ⟨cs, V, xs, r1, hp, c106, own⟩ := h
  refine ⟨cs, V, xs, r1.set_other (row_ne r1 hr (Ne.symm h2)) j v, hp, c106, own_kept own fun g hg => Below.heap_setCell _ _ _ _ ?_⟩
  obtain ⟨⟨fs, e1⟩, _⟩ := own_row own hg
  exact row_ne e1 hr (Ne.symm h1)
theorem ctx19 (B p cu : Nat) (f md : Int) (mi ww : Bool) (k b0 : Nat) (w : World) (hP : PS w B p cu f md mi ww k) (hI : IR w) (hk : k ≤ 1000) (hB : B ≤ w.heap.size) (b1 : b0 ≤ B) (b2 : b0 ≤ p) :
    Calls Tryd.prog 19 #[ptr p] w (NewCtx B p cu f md mi ww k b0 w) := by
  have HB := Lib.hid (And.intro hB (And.intro b1 b2))
  have HP := Lib.hid (And.intro hP hI)
  clear hP hI hB b1 b2
  go_enter Tryd.func19, Tryd.ntmps19
  go_wp2_with fail
  have bW : Below w.heap.size w (w.alloc (.cells #[.int .i32 0, .int .u32 0, .int .u32 0, .bool false] 39)) := (Below.refl _ _).alloc (Nat.le_refl _) _
  have rr := RowAt.new w #[.int .i32 0, .int .u32 0, .int .u32 0, .bool false] 39
  refine (sym21 B p cu f md mi ww k b0 _ (HP.out.1.below bW) (HP.out.2.below bW) hk (by have := HB.out; simp; omega) HB.out.2.1 HB.out.2.2).mono ?_
  rintro e w1 ⟨rfl, p1, k1, hb1⟩
  have r1 := k1 _ _ _ rr (by decide) (by decide)
  obtain ⟨r, hr⟩ : ∃ r, r = w.heap.size := ⟨_, rfl⟩
  rw [← hr] at r1 ⊢
  have s0 := r1.cellv (j := 0) (v := .int .i32 0) rfl
  have s1 := r1.cellv (j := 1) (v := .int .u32 0) rfl
  have s2 := r1.cellv (j := 2) (v := .int .u32 0) rfl
  have s3 := r1.cellv (j := 3) (v := .bool false) rfl
  have z0 := r1.frozen 0
  have z1 := r1.frozen 1
  have z2 := r1.frozen 2
  have z3 := r1.frozen 3
  have lr := r1.lt
  have HE := Lib.hid (And.intro r1 (And.intro p1 (And.intro k1 (And.intro hb1 hr))))
  clear r1 p1 k1 hb1 hr rr bW
  go_wp2_with fail
  have e0 := (((HE.out.1.set 0 (.int .i32 0)).set 1 (.int .u32 0)).set 2 (.int .u32 (k : Int))).set 3 (.bool false)
  have e1 := e0.cellv (j := 0) (v := .int .i32 0) rfl
  have e2 := e0.cellv (j := 1) (v := .int .u32 0) rfl
  have e3 := e0.cellv (j := 2) (v := .int .u32 (k : Int)) rfl
  have e4 := e0.cellv (j := 3) (v := .bool false) rfl
  refine bodyPost_ret (v := .agg #[.int .i32 0, .int .u32 0, .int .u32 (k : Int), .bool false]) (by simp only [results, Tryd.results19]; simp [go_sem, e1, e2, e3, e4]) rfl ?_
  have hb := HB.out
  have hr := HE.out.2.2.2.2
  refine ⟨rfl, (((HE.out.2.1.other HE.out.1 (by decide) (by decide) 0 _).other (HE.out.1.set 0 _) (by decide) (by decide) 1 _).other ((HE.out.1.set 0 _).set 1 _) (by decide) (by decide) 2 _).other (((HE.out.1.set 0 _).set 1 _).set 2 _) (by decide) (by decide) 3 _, fun j es t r' h1 h2 => ?_, ?_⟩
  · have hj : j ≠ r := by have := r'.lt; omega
    exact ((((HE.out.2.2.1 _ _ _ (r'.alloc _) h1 h2).set_other hj 0 _).set_other hj 1 _).set_other hj 2 _).set_other hj 3 _
  · have b3 : Below b0 w w1 := ((Below.refl b0 w).alloc (by omega) _).trans HE.out.2.2.2.1
    exact (((b3.setCell (by show b0 ≤ r; omega) _).setCell (by show b0 ≤ r; omega) _).setCell (by show b0 ≤ r; omega) _).setCell (by show b0 ≤ r; omega) _
theorem ctx9 (B p cu : Nat) (f md : Int) (mi ww : Bool) (k b0 : Nat) (w : World) (hP : PS w B p cu f md mi ww k) (hI : IR w) (hk : k ≤ 1000) (hB : B ≤ w.heap.size) (b1 : b0 ≤ B) (b2 : b0 ≤ p) :
    Calls Tryd.prog 9 #[ptr p] w (NewCtx B p cu f md mi ww k b0 w) := by
  have HB := Lib.hid (And.intro hB (And.intro b1 b2))
  have HP := Lib.hid (And.intro hP hI)
  clear hP hI hB b1 b2
  go_enter Tryd.func9, Tryd.ntmps9
  go_wp2_with fail
  have bW : Below w.heap.size w (w.alloc (.cells #[.int .i32 0, .int .u32 0, .int .u32 0, .bool false] 39)) := (Below.refl _ _).alloc (Nat.le_refl _) _
  have rr := RowAt.new w #[.int .i32 0, .int .u32 0, .int .u32 0, .bool false] 39
  refine (ctx19 B p cu f md mi ww k b0 _ (HP.out.1.below bW) (HP.out.2.below bW) hk (by have := HB.out; simp; omega) HB.out.2.1 HB.out.2.2).mono ?_
  rintro e w1 ⟨rfl, p1, k1, hb1⟩
  have r1 := k1 _ _ _ rr (by decide) (by decide)
  obtain ⟨r, hr⟩ : ∃ r, r = w.heap.size := ⟨_, rfl⟩
  rw [← hr] at r1 ⊢
  have s0 := r1.cellv (j := 0) (v := .int .i32 0) rfl
  have s1 := r1.cellv (j := 1) (v := .int .u32 0) rfl
  have s2 := r1.cellv (j := 2) (v := .int .u32 0) rfl
  have s3 := r1.cellv (j := 3) (v := .bool false) rfl
  have z0 := r1.frozen 0
  have z1 := r1.frozen 1
  have z2 := r1.frozen 2
  have z3 := r1.frozen 3
  have lr := r1.lt
  have HE := Lib.hid (And.intro r1 (And.intro p1 (And.intro k1 (And.intro hb1 hr))))
  clear r1 p1 k1 hb1 hr rr bW
  go_wp2_with fail
  have e0 := (((HE.out.1.set 0 (.int .i32 0)).set 1 (.int .u32 0)).set 2 (.int .u32 (k : Int))).set 3 (.bool false)
  have e1 := e0.cellv (j := 0) (v := .int .i32 0) rfl
  have e2 := e0.cellv (j := 1) (v := .int .u32 0) rfl
  have e3 := e0.cellv (j := 2) (v := .int .u32 (k : Int)) rfl
  have e4 := e0.cellv (j := 3) (v := .bool false) rfl
  refine bodyPost_ret (v := .agg #[.int .i32 0, .int .u32 0, .int .u32 (k : Int), .bool false]) (by simp only [results, Tryd.results9]; simp [go_sem, e1, e2, e3, e4]) rfl ?_
  have hb := HB.out
  have hr := HE.out.2.2.2.2
  refine ⟨rfl, (((HE.out.2.1.other HE.out.1 (by decide) (by decide) 0 _).other (HE.out.1.set 0 _) (by decide) (by decide) 1 _).other ((HE.out.1.set 0 _).set 1 _) (by decide) (by decide) 2 _).other (((HE.out.1.set 0 _).set 1 _).set 2 _) (by decide) (by decide) 3 _, fun j es t r' h1 h2 => ?_, ?_⟩
  · have hj : j ≠ r := by have := r'.lt; omega
    exact ((((HE.out.2.2.1 _ _ _ (r'.alloc _) h1 h2).set_other hj 0 _).set_other hj 1 _).set_other hj 2 _).set_other hj 3 _
  · have b3 : Below b0 w w1 := ((Below.refl b0 w).alloc (by omega) _).trans HE.out.2.2.2.1
    exact (((b3.setCell (by show b0 ≤ r; omega) _).setCell (by show b0 ≤ r; omega) _).setCell (by show b0 ≤ r; omega) _).setCell (by show b0 ≤ r; omega) _
theorem has27 (f g : Int) (w : World) : Calls Tryd.prog 27 #[.int .u64 f, .int .u64 g] w fun e w' => ∃ b, e = .returned (.bool b) ∧ w = w' := by
  go_enter Tryd.func27, Tryd.ntmps27
  go_wp2_with fail
  go_ret
  exact ⟨_, rfl, rfl⟩
theorem using22 (v : Int) (b : Bool) (h : decide (3 ≤ v) = b) (w : World) : Calls Tryd.prog 22 #[.int .u8 v] w fun e w' => e = .returned (.bool b) ∧ w = w' := by
  subst h
  go_enter Tryd.func22, Tryd.ntmps22
  go_wp2_with fail
  go_ret
  exact ⟨rfl, rfl⟩
/-- A kind that is no using. -/
def Sel (w : World) (e : Ending) (w' : World) : Prop := ∃ v : Int, e = .returned (.int .u8 v) ∧ (v = 0 ∨ v = 1 ∨ v = 2) ∧ w = w'
theorem sel25 (B p cu : Nat) (f md : Int) (mi ww : Bool) (k : Nat) (w : World) (o : Option Addr) (hP : PS w B p cu f md mi ww k) (hc : w.cell? ⟨cu, 1, none⟩ = some (.pointer o)) : Calls Tryd.prog 25 #[ptr p, .int .u8 2] w (Sel w) := by
  obtain ⟨cs, V, xs, r1, hp, c106, own⟩ := hP
  have p104 := r1.cellv hp.c104
  have p23 := r1.cellv hp.c23
  have p34 := r1.cellv hp.c34
  have p41 := r1.cellv hp.c41
  have p352 := r1.cellv hp.c352
  clear r1 hp c106 own
  unfold ptr at *
  go_enter Tryd.func25, Tryd.ntmps25
  go_wp2_with fail
  refine (has27 f 131072 w).mono ?_
  rintro e w1 ⟨b, rfl, rfl⟩
  cases b
  · by_cases hm : md = 2
    · subst hm
      cases o <;> cases ww <;> cases mi <;> (go_wp2_with fail; go_ret; exact ⟨_, rfl, by simp, rfl⟩)
    · have hm' : (md == 2) = false := by simpa using hm
      clear hm
      cases o <;> cases ww <;> cases mi <;> (go_wp2_with fail; go_ret; exact ⟨_, rfl, by simp, rfl⟩)
  · go_wp2_with fail
    go_ret
    exact ⟨_, rfl, by simp, rfl⟩
theorem count12 (B p cu : Nat) (f md : Int) (mi ww : Bool) (k : Nat) (w : World) (hP : PS w B p cu f md mi ww k) : Calls Tryd.prog 12 #[ptr p] w fun e w' => e = .returned (.int .i64 k) ∧ w = w' := by
  obtain ⟨cs, V, xs, r1, hp, c106, own⟩ := hP
  obtain ⟨ov, cap, rfl⟩ := own_slice own
  have p106 := r1.cellv c106
  clear r1 hp c106 own
  unfold ptr
  go_enter Tryd.func12, Tryd.ntmps12
  go_wp2_with fail
  go_ret
  exact ⟨rfl, rfl⟩
theorem first13 (c : Nat) (v : Int) (w : World) (h : w.cell? ⟨c, 0, none⟩ = some (.int .i32 v)) : Calls Tryd.prog 13 #[ptr c] w fun e w' => e = .returned (.int .i32 v) ∧ w = w' := by
  unfold ptr
  go_enter Tryd.func13, Tryd.ntmps13
  go_wp2_with fail
  go_ret
  exact ⟨rfl, rfl⟩
theorem await14 (c : Nat) (v : Bool) (w : World) (h : w.cell? ⟨c, 3, none⟩ = some (.bool v)) : Calls Tryd.prog 14 #[ptr c] w fun e w' => e = .returned (.bool v) ∧ w = w' := by
  unfold ptr
  go_enter Tryd.func14, Tryd.ntmps14
  go_wp2_with fail
  go_ret
  exact ⟨rfl, rfl⟩
theorem isu11 (v : Int) (h : v = 0 ∨ v = 1 ∨ v = 2) (w : World) : Calls Tryd.prog 11 #[.int .u8 v] w fun e w' => e = .returned (.bool false) ∧ w = w' := by
  have h1 : (v == 3) = false := by simp; omega
  have h2 : (v == 4) = false := by simp; omega
  clear h
  go_enter Tryd.func11, Tryd.ntmps11
  go_wp2_with fail
  go_ret
  exact ⟨rfl, rfl⟩

end Go.Proofs.YtkncfhhiookgdaaDoor
