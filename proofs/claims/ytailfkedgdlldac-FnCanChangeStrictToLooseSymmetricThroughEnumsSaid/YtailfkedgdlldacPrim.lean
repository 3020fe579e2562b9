import Derived.Test.YtailfkedgdlldacKit
import Derived.Test.YtailfkedgdlldacAs
import Derived.Test.YtailfkedgdlldacRow
namespace Go.Proofs.Ytailfkedgdlldac.fnCanChangeStrictToLooseSymmetricThroughEnums
open Go.ChangeShapes Go.WideShapes Go.ChangeAt Go.RowKit
set_option linter.unusedVariables false
set_option maxRecDepth 100000
set_option maxHeartbeats 2000000

/-- What the program says of an expression's data: its primitive type is t, now and in every later world. -/
def Prim (w : World) (d : Value) (t : Int) : Prop :=
  ∀ w', Below w.heap.size w w' → Calls Try.prog 26 #[d] w' fun e w'' => e = .returned (.int .u8 t) ∧ Below w'.heap.size w' w''

theorem Prim.below {w w1 : World} {d : Value} {t : Int} (h : Prim w d t) (hb : Below w.heap.size w w1) : Prim w1 d t := fun w' h' => h w' (hb.trans (h'.mono hb.size))

theorem leaf_known (T : Nat) (t : Int) (v : Value) (w : World) (h : (T = 90 ∧ t = 2) ∨ (T = 93 ∧ t = 3) ∨ (T = 95 ∧ t = 4) ∨ (T = 47 ∧ t = 5) ∨ (T = 98 ∧ t = 6) ∨ (T = 103 ∧ t = 7)) :
    Calls Try.prog 26 #[.iface T v] w fun e w' => e = .returned (.int .u8 t) ∧ Below w.heap.size w w' := by
  rcases h with ⟨rfl, rfl⟩ | ⟨rfl, rfl⟩ | ⟨rfl, rfl⟩ | ⟨rfl, rfl⟩ | ⟨rfl, rfl⟩ | ⟨rfl, rfl⟩ <;> as_aux_lemma =>
    go_enter Try.func26, Try.ntmps26
    go_wp2_with fail
    go_ret
    exact ⟨rfl, by go_grown⟩

theorem leaf_unknown (T : Nat) (v : Value) (w : World) (h : T = 106 ∨ T = 109 ∨ T = 111 ∨ T = 123 ∨ T = 126) :
    Calls Try.prog 26 #[.iface T v] w fun e w' => e = .returned (.int .u8 0) ∧ Below w.heap.size w w' := by
  rcases h with rfl | rfl | rfl | rfl | rfl <;> as_aux_lemma =>
    go_enter Try.func26, Try.ntmps26
    go_wp2_with fail
    go_ret
    exact ⟨rfl, by go_grown⟩

theorem enum_known (b : Nat) (d : Value) (t : Int) (w : World) (hc : w.cell? ⟨b, 0, none⟩ = some d) (hp : Prim w d t) :
    Calls Try.prog 26 #[.iface 82 (.pointer (some ⟨b, 0, none⟩))] w fun e w' => e = .returned (.int .u8 t) ∧ Below w.heap.size w w' := by
  have HP := Lib.hid hp
  clear hp
  go_enter Try.func26, Try.ntmps26
  go_wp2_with fail
  refine (HP.out _ (Below.refl _ _)).mono ?_
  rintro e w1 ⟨rfl, h1⟩
  go_wp2_with fail
  go_ret
  exact ⟨rfl, h1⟩

/-- What two branches come to. -/
def merged (x y : Int) : Int := if x = 0 then 0 else if y = 0 then 0 else if x = y then x else 1

theorem merge (d1 d2 : Value) (l1 l2 x y : Int) (w : World) (h1 : Prim w d1 x) (h2 : Prim w d2 y) :
    Calls Try.prog 30 #[.agg #[d1, .int .i32 l1], .agg #[d2, .int .i32 l2]] w fun e w' => e = .returned (.int .u8 (merged x y)) ∧ Below w.heap.size w w' := by
  have H1 := Lib.hid h1
  have H2 := Lib.hid h2
  clear h1 h2
  obtain ⟨m, hm⟩ : ∃ m, merged x y = m := ⟨_, rfl⟩
  rw [hm]
  by_cases hx : x = 0
  · have hb : (x == 0) = true := by simpa using hx
    have HM : Hid (m = 0) := by unfold Hid; rw [← hm]; simp [merged, hx]
    clear hm hx
    go_enter Try.func30, Try.ntmps30
    go_wp2_with fail
    refine (H1.out _ (by go_grown)).mono ?_
    rintro e w1 ⟨rfl, b1⟩
    go_wp2_with fail
    go_ret
    exact ⟨ret_int HM.out.symm, Below.trans (by go_grown) (b1.mono (by go_size))⟩
  · have hb : (x == 0) = false := by simpa using hx
    by_cases hy : y = 0
    · have hby : (y == 0) = true := by simpa using hy
      have HM : Hid (m = 0) := by unfold Hid; rw [← hm]; simp [merged, hy]
      clear hm hx hy
      go_enter Try.func30, Try.ntmps30
      go_wp2_with fail
      refine (H1.out _ (by go_grown)).mono ?_
      rintro e w1 ⟨rfl, b1⟩
      have B1 : Below w.heap.size w w1 := Below.trans (by go_grown) (b1.mono (by go_size))
      have c2 : w1.cell? ⟨w.heap.size + 1, 0, none⟩ = some d2 := by rw [b1.cell (p := ⟨w.heap.size + 1, 0, none⟩) (by go_size)]; go_simp
      clear b1
      go_wp2_with fail
      refine (H2.out _ B1).mono ?_
      rintro e w2 ⟨rfl, b2⟩
      go_wp2_with fail
      go_ret
      exact ⟨ret_int HM.out.symm, B1.trans (b2.mono B1.size)⟩
    · have hby : (y == 0) = false := by simpa using hy
      by_cases hxy : x = y
      · have hbe : (x == y) = true := by simpa using hxy
        have HM : Hid (m = x) := by unfold Hid; rw [← hm]; simp [merged, hx, hy, hxy]
        clear hm hx hy hxy
        go_enter Try.func30, Try.ntmps30
        go_wp2_with fail
        refine (H1.out _ (by go_grown)).mono ?_
        rintro e w1 ⟨rfl, b1⟩
        have B1 : Below w.heap.size w w1 := Below.trans (by go_grown) (b1.mono (by go_size))
        have c2 : w1.cell? ⟨w.heap.size + 1, 0, none⟩ = some d2 := by rw [b1.cell (p := ⟨w.heap.size + 1, 0, none⟩) (by go_size)]; go_simp
        clear b1
        go_wp2_with fail
        refine (H2.out _ B1).mono ?_
        rintro e w2 ⟨rfl, b2⟩
        go_wp2_with fail
        go_ret
        exact ⟨ret_int HM.out.symm, B1.trans (b2.mono B1.size)⟩
      · have hbe : (x == y) = false := by simpa using hxy
        have HM : Hid (m = 1) := by unfold Hid; rw [← hm]; simp [merged, hx, hy, hxy]
        clear hm hx hy hxy
        go_enter Try.func30, Try.ntmps30
        go_wp2_with fail
        refine (H1.out _ (by go_grown)).mono ?_
        rintro e w1 ⟨rfl, b1⟩
        have B1 : Below w.heap.size w w1 := Below.trans (by go_grown) (b1.mono (by go_size))
        have c2 : w1.cell? ⟨w.heap.size + 1, 0, none⟩ = some d2 := by rw [b1.cell (p := ⟨w.heap.size + 1, 0, none⟩) (by go_size)]; go_simp
        clear b1
        go_wp2_with fail
        refine (H2.out _ B1).mono ?_
        rintro e w2 ⟨rfl, b2⟩
        go_wp2_with fail
        go_ret
        exact ⟨ret_int HM.out.symm, B1.trans (b2.mono B1.size)⟩


end Go.Proofs.Ytailfkedgdlldac.fnCanChangeStrictToLooseSymmetricThroughEnums
