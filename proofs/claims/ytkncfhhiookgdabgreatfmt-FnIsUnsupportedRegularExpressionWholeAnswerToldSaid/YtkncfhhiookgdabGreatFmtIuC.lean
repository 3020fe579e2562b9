import Derived.Test.YtkncfhhiookgdabGreatFmtKit
import Derived.Test.YtkncfhhiookgdabGreatFmtIuB
namespace Go.Proofs.YtkncfhhiookgdabGreatFmt
open Go.ChangeShapes Go.WideShapes Go.ChangeAt Go.RowKit
set_option linter.unusedVariables false
set_option maxRecDepth 100000
set_option maxHeartbeats 2000000

open Go.MuLone Go.Extern
def HasIs (B k mu he ms : Nat) (v : Value) (n : Nat) (xs : List Value) (fl : Bool) (W : World) (e : Ending) (W' : World) : Prop := e = .returned (.bool fl) ∧ Below B W W'
set_option maxHeartbeats 4000000 in
theorem has21 (B k mu he ms : Nat) (v : Value) (n : Nat) (xs : List Value) (fl : Bool) (W : World) (H : LG B k mu he ms 0 v n xs fl W) :
    Calls Tryz.prog 21 #[.pointer (some ⟨mu, 0, none⟩), .pointer (some ⟨he, 0, none⟩)] W (HasIs B k mu he ms v n xs fl W) := by
  have HH := Lib.hid H
  have hh0 := H.rh
  clear H
  go_enter_defers Tryz.func21, Tryz.ntmps21
  go_wp2_with fail
  refine (lock_free Tryz.muLib ⟨mu, 0, none⟩ _ (HH.out.rm.cellv rfl) (HH.out.rm.frozen 0)).mono ?_
  rintro e2 w2 ⟨rfl, rfl⟩
  have rm2 := HH.out.rm.set 0 (.int .i32 1)
  have rh2 := hh0.set_other (hh0.diff HH.out.rm (by decide)) 0 (.int .i32 1)
  have bl2 : Below B W (W.setCell ⟨mu, 0, none⟩ (.int .i32 1)) := (Below.refl _ _).setCell HH.out.bm _
  obtain ⟨W2, hW2⟩ : ∃ W2, W2 = W.setCell ⟨mu, 0, none⟩ (.int .i32 1) := ⟨_, rfl⟩
  rw [← hW2] at rm2 rh2 bl2 ⊢
  have c4 := rh2.cellv (j := 0) (v := .bool fl) rfl
  have l4 := rh2.lt
  have HO := Lib.hid (And.intro rm2 (And.intro rh2 bl2))
  clear rm2 rh2 bl2 hW2 hh0
  go_wp2_with fail
  obtain ⟨rm2, rh2, bl2⟩ := HO.out
  refine leaves_cons (f := 20) (args := #[.pointer (some ⟨mu, 0, none⟩)]) (by simp) (by simp [go_sem]) ?_
  refine (unlock_deferred Tryz.muLib ⟨mu, 0, none⟩ .returning _ (rm2.cellv rfl) (rm2.frozen 0)).mono ?_
  rintro e u' w'' ⟨rfl, rfl, rfl⟩
  exact ⟨_, results_tmp rfl _ _ _, rfl, bl2.setCell HH.out.bm _⟩
@[go_sem ↓] theorem look38 (w : World) : (Instr.lookup 38 (.map none) (.int .u8 32) true).run Tryz.prog w = .ok (.tuple #[.int .i8 0, .bool false]) w := by kernel_rfl
def AllowIs (W : World) (e : Ending) (W' : World) : Prop := e = .returned (.tuple #[.int .u8 4, .bool true]) ∧ ∃ q, W' = W.drewN q
theorem allow44 (W : World) : Calls Tryz.prog 44 #[.map none, .int .u8 32, .int .u8 4] W (AllowIs W) := by
  go_enter Tryz.func44, Tryz.ntmps44
  go_wp2
  go_ret2
  exact ⟨rfl, 0, rfl⟩

end Go.Proofs.YtkncfhhiookgdabGreatFmt
