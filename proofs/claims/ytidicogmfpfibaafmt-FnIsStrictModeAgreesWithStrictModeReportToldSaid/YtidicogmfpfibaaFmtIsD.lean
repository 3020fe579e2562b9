import Derived.Test.YtidicogmfpfibaaFmtKit
import Derived.Test.YtidicogmfpfibaaFmtIsC
import Derived.Test.YtidicogmfpfibaaFmtScript
namespace Go.Proofs.YtidicogmfpfibaaFmt
open Go.ChangeShapes Go.WideShapes Go.ChangeAt Go.RowKit
set_option linter.unusedVariables false
set_option maxRecDepth 100000
set_option maxHeartbeats 2000000

open Go.MuLone
theorem there_row {w : World} {p o n : Nat} {cs : Array Value} {t : TypeId} (r : RowAt w p cs t) (h : o + n ≤ cs.size) : w.there p o n := fun j hj => by
  refine ⟨?_, r.frozen _⟩
  rw [r.cell, Array.getElem?_eq_getElem (by omega)]
  rfl
theorem putL_size : ∀ (vs : List Value) (cs : Array Value) (o : Nat), (putL cs o vs).size = cs.size
  | [], _, _ => rfl
  | v :: r, cs, o => (putL_size r _ (o + 1)).trans (by simp)
theorem At.app_left {cs : Array Value} {L M : List (Nat × Value)} (h : At cs (L ++ M)) : At cs L := fun q hq => h q (List.mem_append_left _ hq)
theorem At.app_right {cs : Array Value} {L M : List (Nat × Value)} (h : At cs (L ++ M)) : At cs M := fun q hq => h q (List.mem_append_right _ hq)
/-- The value of a tracker over an empty source. -/
def trkV : Array Value := #[.string ⟨#[]⟩, .string ⟨#[]⟩, .string ⟨#[]⟩, .int .i32 0, .int .i32 0, .int .i32 0, .int .i32 0, .bool true, .bool false, .bool true]
/-- What is asked of the cells of a parser (its tracker apart). -/
def parL (k mu he ms sc ts : Nat) (fm : Int) : List (Nat × Value) := [(51, .func (Fn.func 19) #[] #[.pointer (some ⟨k, 0, none⟩), .pointer (some ⟨mu, 0, none⟩), .pointer (some ⟨he, 0, none⟩), .pointer (some ⟨ms, 0, none⟩)]), (52, .func (Fn.func 22) #[] #[.pointer (some ⟨mu, 0, none⟩), .pointer (some ⟨he, 0, none⟩)]), (53, .func (Fn.func 23) #[] #[.pointer (some ⟨mu, 0, none⟩), .pointer (some ⟨ms, 0, none⟩)]), (54, .func (Fn.func 24) #[] #[.pointer (some ⟨mu, 0, none⟩), .pointer (some ⟨ms, 0, none⟩)]), (55, .int .i8 3), (56, .map none),
  (13, .pointer (some ⟨ts, 0, none⟩)), (22, .int .u8 0), (36, .int .u8 fm), (57, .string ⟨#[]⟩), (58, .string ⟨#[]⟩), (60, .string ⟨#[]⟩), (104, .pointer (some ⟨sc, 0, none⟩)), (315, .int .i32 0), (317, .int .i32 0), (319, .int .i32 0), (320, .int .i32 0), (321, .int .i32 0), (323, .int .i32 0), (328, .int .i32 0)]
/-- What is asked of the record of the always-strict setting. -/
def tsL : List (Nat × Value) := [(0, .string ⟨#[]⟩), (1, .string ⟨#[]⟩), (2, .string ⟨#[]⟩), (4, .string ⟨#[]⟩), (11, .int .i32 0), (12, .int .i32 0)]
/-- A parser's rows. -/
def PS (p k mu he ms sc ts : Nat) (fm kd : Int) (W : World) : Prop := ∃ cs b, RowAt W p cs 166 ∧ At cs (trkL 67) ∧ cs[75]? = some (.bool b) ∧ At cs (parL k mu he ms sc ts fm) ∧ (∃ ss, RowAt W sc ss 179 ∧ At ss [(6, .int .i32 0), (14, .int .u8 kd)]) ∧ ∃ tt, RowAt W ts tt 181 ∧ At tt tsL
theorem PS.later {p k mu he ms sc ts : Nat} {fm kd : Int} {W W' : World} (h : PS p k mu he ms sc ts fm kd W) (hb : Below W.heap.size W W') : PS p k mu he ms sc ts fm kd W' := by
  obtain ⟨cs, b, r, h1, h2, h3, ⟨ss, rs, h4⟩, tt, rt, h5⟩ := h
  exact ⟨cs, b, r.below hb r.lt, h1, h2, h3, ⟨ss, rs.below hb rs.lt, h4⟩, tt, rt.below hb rt.lt, h5⟩
/-- The tracker has found its line's end: a parser as before. -/
theorem PS.tracked {p k mu he ms sc ts : Nat} {fm kd : Int} {W W' : World} {cs : Array Value} (r' : RowAt W' p (cs.setIfInBounds 75 (.bool true)) 166) (hF : Fp p W W') (h1 : At cs (trkL 67)) (b : Bool) (h2 : cs[75]? = some (.bool b)) (h3 : At cs (parL k mu he ms sc ts fm)) (r : RowAt W p cs 166) (h4 : ∃ ss, RowAt W sc ss 179 ∧ At ss [(6, .int .i32 0), (14, .int .u8 kd)]) (h5 : ∃ tt, RowAt W ts tt 181 ∧ At tt tsL) : PS p k mu he ms sc ts fm kd W' := by
  obtain ⟨ss, rs, h4⟩ := h4
  obtain ⟨tt, rt, h5⟩ := h5
  obtain ⟨hlt, _⟩ := Array.getElem?_eq_some_iff.1 h2
  refine ⟨_, true, r', trkL_set h1 _, by rw [Array.getElem?_setIfInBounds_self_of_lt hlt], h3.set _ _ (by simp [parL]), ⟨ss, hF _ _ _ (rs.diff r (by decide)) rs, h4⟩, tt, hF _ _ _ (rt.diff r (by decide)) rt, h5⟩
theorem LG.fp {B k mu he ms : Nat} {kd : Int} {v : Value} {n : Nat} {xs : List Value} {W W' : World} {p : Nat} {cs : Array Value} (H : LG B k mu he ms kd v n xs W) (r : RowAt W p cs 166) (hF : Fp p W W') (hz : W.heap.size ≤ W'.heap.size) : LG B k mu he ms kd v n xs W' :=
  { H with rk := hF _ _ _ (H.rk.diff r (by decide)) H.rk, rm := hF _ _ _ (H.rm.diff r (by decide)) H.rm, rh := by obtain ⟨b, h⟩ := H.rh; exact ⟨b, hF _ _ _ (h.diff r (by decide)) h⟩, rs := hF _ _ _ (H.rs.diff r (by decide)) H.rs, own := own_kept H.own fun g cs' r' => hF _ _ _ (r'.diff r (by decide)) r', hB := Nat.le_trans H.hB hz }

end Go.Proofs.YtidicogmfpfibaaFmt
