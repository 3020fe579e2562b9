import Derived.Test.YtmbbabikbmkjpaaKit
import Derived.Test.YtmbbabikbmkjpaaIsA
namespace Go.Proofs.Ytmbbabikbmkjpaa.fnIsSafeForConstLocalPrefixConcat
open Go.ChangeShapes Go.WideShapes Go.ChangeAt Go.RowKit
set_option linter.unusedVariables false
set_option maxRecDepth 100000
set_option maxHeartbeats 2000000

def flatB (c : Int) : Bool := decide (c % 13 ≤ 6) || decide (c % 13 = 12)

/-- An expression of which the program says b. -/
def Itm (b : Bool) (w : World) (e : Ending) (w' : World) : Prop := ∃ U u : Nat, e = .returned (.agg #[.iface U (.pointer (some ⟨u, 0, none⟩)), .int .i32 0]) ∧ (∀ X : Nat → Prop, (∀ j, X j → j < w.heap.size) → Safe X w' U u b) ∧ Below w.heap.size w w'

theorem in_new {X : Nat → Prop} {n m : Nat} (h : ∀ j, X j → j < n) (hm : n ≤ m) : ¬ X m := fun hx => by have := h _ hx; omega

theorem info148 : (Try.prog.info? 148).map (fun i => (i.zero, i.size, i.bytes)) = some (some (.agg #[.pointer none, .nilIface, .int .i32 0, .nilIface, .int .i32 0, .nilIface, .int .i32 0, .slice none 0 0, .int .i32 0, .int .i32 0, .int .u8 0, .int .u8 0]), 12, 120) := by kernel_rfl
theorem fl_const (c : Int) (w : World) (k : Int) (hk : c % 13 = k) (hc : 0 ≤ c) (hc2 : c ≤ 255) (h : k = 0 ∨ k = 1 ∨ k = 2 ∨ k = 3 ∨ k = 4 ∨ k = 5) : Calls Try.prog 27 #[.int .u8 c] w (Itm true w) := by
  rcases h with rfl | rfl | rfl | rfl | rfl | rfl
  all_goals
    go_enter Try.func27, Try.ntmps27
    go_wp2_with fail
    go_returns
    exact ⟨_, _, rfl, fun X hX w' hk => const_yes _ _ w' (by decide), by go_grown⟩
theorem fl_no (c : Int) (w : World) (k : Int) (hk : c % 13 = k) (hc : 0 ≤ c) (hc2 : c ≤ 255) (h : k = 8 ∨ k = 9 ∨ k = 10 ∨ k = 11) : Calls Try.prog 27 #[.int .u8 c] w (Itm false w) := by
  rcases h with rfl | rfl | rfl | rfl
  all_goals
    go_enter Try.func27, Try.ntmps27
    go_wp2_with fail
    go_returns
    exact ⟨_, _, rfl, fun X hX w' hk => const_no _ _ w' (by decide), by go_grown⟩
theorem fl_obj (c : Int) (w : World) (hk : c % 13 = 6) (hc : 0 ≤ c) (hc2 : c ≤ 255) : Calls Try.prog 27 #[.int .u8 c] w (Itm true w) := by
  go_enter Try.func27, Try.ntmps27
  go_wp2_with fail
  go_returns
  exact ⟨_, _, rfl, fun X hX w' hk => obj_yes _ w' ((hk.row (RowAt.newAt (by go_size)) (in_new hX (by go_size))).cellv rfl), by go_grown⟩
theorem fl_arr (c : Int) (w : World) (hk : c % 13 = 12) (hc : 0 ≤ c) (hc2 : c ≤ 255) : Calls Try.prog 27 #[.int .u8 c] w (Itm true w) := by
  go_enter Try.func27, Try.ntmps27
  go_wp2_with fail
  go_returns
  exact ⟨_, _, rfl, fun X hX w' hk => arr_nil _ w' ((hk.row (RowAt.newAt (by go_size)) (in_new hX (by go_size))).cellv rfl), by go_grown⟩
theorem fl_prop (c : Int) (w : World) (hk : c % 13 = 7) (hc : 0 ≤ c) (hc2 : c ≤ 255) : Calls Try.prog 27 #[.int .u8 c] w (Itm false w) := by
  obtain ⟨i0, hi, hz0, hz1, hz2⟩ := info_parts info148
  go_enter Try.func27, Try.ntmps27
  go_wp2_with (at_make; refine wpList_make_full _ rfl _ _ 99 rfl (w.heap.size + 1) 148 i0 _ 12 Try.underlying99 hi hz0 hz1 .i64 .i64 _ _ 1 rfl rfl rfl rfl (by rw [hz2]; omega) (by unfold maxLen; omega) (by go_size) ?_)
  intro w1 hown hgrow
  have HB : Hid (Below w.heap.size w w1) := Below.grown (Below.alloc (Below.refl _ _) (Nat.le_refl _) _) hgrow (by go_size) (fun k hk => by cases hk)
  have hr : RowAt w1 w.heap.size #[.nilIface, .int .i32 0] 57 := (hgrow.block _ (by simp) (by simp)).trans (RowAt.new w _ _)
  have HR := Lib.hid hr
  have c0 := hr.cellv (j := 0) (v := .nilIface) rfl
  have c1 := hr.cellv (j := 1) (v := .int .i32 0) rfl
  have f0 := hr.frozen
  have hl := hr.lt
  clear hown hgrow hi hz0 hz1 hz2 i0 hr
  go_wp2_with fail
  have q0 : (w1.setCell ⟨w.heap.size, 0, none⟩ (.iface 98 (.pointer (some ⟨w1.heap.size, 0, none⟩)))).cell? ⟨w.heap.size, 0, none⟩ = some (.iface 98 (.pointer (some ⟨w1.heap.size, 0, none⟩))) := (HR.out.set 0 _).cellv rfl
  have q1 : ((w1.setCell ⟨w.heap.size, 0, none⟩ (.iface 98 (.pointer (some ⟨w1.heap.size, 0, none⟩)))).setCell ⟨w.heap.size, 1, none⟩ (.int .i32 0)).cell? ⟨w.heap.size, 1, none⟩ = some (.int .i32 0) := ((HR.out.set 0 _).set 1 _).cellv rfl
  have hsz := HB.out.size
  exact bodyPost_ret (v := .agg #[.iface 98 (.pointer (some ⟨w1.heap.size, 0, none⟩)), .int .i32 0]) (by simp [results, Try.results27, go_sem, q0, q1, hl]) rfl
    ⟨_, _, rfl, fun X hX w' hk' => obj_no _ _ w' ((hk'.row (RowAt.newAt (by simp)) (in_new hX (by omega))).cellv rfl), ((HB.out.setCell (Nat.le_refl _) _).setCell (Nat.le_refl _) _).alloc (by simpa using hsz) _⟩
def codes (c : Int) : Prop := 0 ≤ c ∧ c ≤ 255
theorem flat27 (c : Int) (w : World) (h : codes c) : Calls Try.prog 27 #[.int .u8 c] w (Itm (flatB c) w) := by
  obtain ⟨hc, hc2⟩ := h
  have hk : (c % 13 = 0 ∨ c % 13 = 1 ∨ c % 13 = 2 ∨ c % 13 = 3 ∨ c % 13 = 4 ∨ c % 13 = 5) ∨ (c % 13 = 8 ∨ c % 13 = 9 ∨ c % 13 = 10 ∨ c % 13 = 11) ∨ c % 13 = 6 ∨ c % 13 = 7 ∨ c % 13 = 12 := by omega
  rcases hk with hk | hk | hk | hk | hk
  · rw [show flatB c = true by unfold flatB; rcases hk with h | h | h | h | h | h <;> rw [h] <;> rfl]
    exact fl_const c w _ rfl hc hc2 hk
  · rw [show flatB c = false by unfold flatB; rcases hk with h | h | h | h <;> rw [h] <;> rfl]
    exact fl_no c w _ rfl hc hc2 hk
  · rw [show flatB c = true by unfold flatB; rw [hk]; rfl]
    exact fl_obj c w hk hc hc2
  · rw [show flatB c = false by unfold flatB; rw [hk]; rfl]
    exact fl_prop c w hk hc hc2
  · rw [show flatB c = true by unfold flatB; rw [hk]; rfl]
    exact fl_arr c w hk hc hc2

end Go.Proofs.Ytmbbabikbmkjpaa.fnIsSafeForConstLocalPrefixConcat
