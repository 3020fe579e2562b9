import Derived.Test.YtmbbabikbmkjpaaKit
import Derived.Test.YtmbbabikbmkjpaaIsB
namespace Go.Proofs.Ytmbbabikbmkjpaa.fnIsSafeForConstLocalPrefixConcat
open Go.ChangeShapes Go.WideShapes Go.ChangeAt Go.RowKit
set_option linter.unusedVariables false
set_option maxRecDepth 100000
set_option maxHeartbeats 2000000

theorem item_n (c : Int) (u0 : Nat) (w : World) (hk : c % 13 = 12) (h : codes c) : Calls Try.prog 28 #[.int .u8 c, .agg #[.iface 61 (.pointer (some ⟨u0, 0, none⟩)), .int .i32 0]] w fun e w' => e = .returned (.agg #[.iface 61 (.pointer (some ⟨u0, 0, none⟩)), .int .i32 0]) ∧ Below w.heap.size w w' := by
  obtain ⟨h1, h2⟩ := h
  go_enter Try.func28, Try.ntmps28
  go_wp2_with fail
  go_returns
  exact ⟨rfl, by go_grown⟩
theorem item_f (c : Int) (u0 : Nat) (w : World) (hk : c % 13 ≠ 12) (h : codes c) : Calls Try.prog 28 #[.int .u8 c, .agg #[.iface 61 (.pointer (some ⟨u0, 0, none⟩)), .int .i32 0]] w (Itm (flatB c) w) := by
  have hb : (c % 13 == 12) = false := by simpa using hk
  have H := Lib.hid h
  obtain ⟨h1, h2⟩ := h
  clear hk
  go_enter Try.func28, Try.ntmps28
  go_wp2_with fail
  refine (flat27 c _ H.out).mono ?_
  rintro e w1 ⟨U, u, rfl, hs, hb1⟩
  have hr : RowAt w1 (w.heap.size + 1) #[.nilIface, .int .i32 0] 57 := (RowAt.newAt (by simp)).below hb1 (by go_size)
  have HR := Lib.hid hr
  have HS := Lib.hid hs
  have HB : Hid (Below w.heap.size w w1) := Below.trans (by go_grown) (hb1.mono (by go_size))
  have hz1 := hb1.size
  simp at hz1
  have HZ := Lib.hid hz1
  have c0 := hr.cellv (j := 0) (v := .nilIface) rfl
  have c1 := hr.cellv (j := 1) (v := .int .i32 0) rfl
  have f0 := hr.frozen
  clear hr hs hb1 hz1
  go_wp2_with fail
  have q0 : (w1.setCell ⟨w.heap.size + 1, 0, none⟩ (.iface U (.pointer (some ⟨u, 0, none⟩)))).cell? ⟨w.heap.size + 1, 0, none⟩ = some (.iface U (.pointer (some ⟨u, 0, none⟩))) := (HR.out.set 0 _).cellv rfl
  have q1 : ((w1.setCell ⟨w.heap.size + 1, 0, none⟩ (.iface U (.pointer (some ⟨u, 0, none⟩)))).setCell ⟨w.heap.size + 1, 1, none⟩ (.int .i32 0)).cell? ⟨w.heap.size + 1, 1, none⟩ = some (.int .i32 0) := ((HR.out.set 0 _).set 1 _).cellv rfl
  refine bodyPost_ret (v := .agg #[.iface U (.pointer (some ⟨u, 0, none⟩)), .int .i32 0]) (by simp [results, Try.results28, go_sem, q0, q1]) rfl
    ⟨U, u, rfl, fun X hX w' hk' => ?_, (HB.out.setCell (by show w.heap.size ≤ w.heap.size + 1; omega) _).setCell (by show w.heap.size ≤ w.heap.size + 1; omega) _⟩
  refine HS.out (fun j => X j ∨ j = w.heap.size + 1) (fun j hj => ?_) w' ?_
  · have := HZ.out
    rcases hj with hj | rfl
    · have := hX j hj
      simp
      omega
    · simp
  · exact ((FrX.refl.set (.inr rfl)).set (.inr rfl)).trans (hk'.mono fun j _ hx => .inl hx)

/-- The first k items of a row under way; the items hold as long as only the blocks of X turn. -/
def Bld (X : Nat → Prop) (w : World) (R n k : Nat) (B : Nat → Bool) : Prop := ∃ (cs : Array Value) (T P : Nat → Nat), RowAt w R cs 57 ∧ cs.size = n * 2 ∧ (∀ i, i < k → cs[i * 2]? = some (.iface (T i) (.pointer (some ⟨P i, 0, none⟩))) ∧ cs[i * 2 + 1]? = some (.int .i32 0)) ∧ ∀ i, i < k → Safe X w (T i) (P i) (B i)
section
variable {X : Nat → Prop}
theorem Bld.step {w w1 : World} {R n k U u : Nat} {B : Nat → Bool} (h : Bld X w R n k B) (hX : X R) (hk : k < n) (hb : Below w.heap.size w w1) (hs : Safe X w1 U u (B k)) :
    Bld X ((w1.setCell ⟨R, k * 2, none⟩ (.iface U (.pointer (some ⟨u, 0, none⟩)))).setCell ⟨R, k * 2 + 1, none⟩ (.int .i32 0)) R n (k + 1) B := by
  obtain ⟨cs, T, P, hr, hz, hx, hq⟩ := h
  have hfr : FrX X w1 ((w1.setCell ⟨R, k * 2, none⟩ (.iface U (.pointer (some ⟨u, 0, none⟩)))).setCell ⟨R, k * 2 + 1, none⟩ (.int .i32 0)) := (FrX.refl.set hX).set hX
  refine ⟨_, fun i => if i = k then U else T i, fun i => if i = k then u else P i, ((hr.below hb hr.lt).set _ _).set _ _, by simpa using hz, fun i hi => ?_, fun i hi => ?_⟩
  · by_cases e : i = k
    · subst e
      simp only [if_true]
      rw [Array.getElem?_setIfInBounds, if_neg (by omega), Array.getElem?_setIfInBounds, if_pos rfl, if_pos (by omega), Array.getElem?_setIfInBounds, if_pos rfl, if_pos (by simp; omega)]
      exact ⟨rfl, rfl⟩
    · simp only [if_neg e]
      rw [Array.getElem?_setIfInBounds, if_neg (by omega), Array.getElem?_setIfInBounds, if_neg (by omega), Array.getElem?_setIfInBounds, if_neg (by omega), Array.getElem?_setIfInBounds, if_neg (by omega)]
      exact hx i (by omega)
  · by_cases e : i = k
    · subst e
      simp only [if_true]
      exact hs.kept hfr
    · simp only [if_neg e]
      exact (hq i (by omega)).kept ((FrX.below hb).trans hfr)
theorem Bld.below {w w1 : World} {R n k : Nat} {B : Nat → Bool} (h : Bld X w R n k B) (hb : Below w.heap.size w w1) : Bld X w1 R n k B := by
  obtain ⟨cs, T, P, hr, hz, hx, hq⟩ := h
  exact ⟨cs, T, P, hr.below hb hr.lt, hz, hx, fun i hi => (hq i hi).kept (FrX.below hb)⟩
theorem Bld.setX {w : World} {R n k c o : Nat} {v : Value} {B : Nat → Bool} (h : Bld X w R n k B) (hc : X c) (hne : R ≠ c) : Bld X (w.setCell ⟨c, o, none⟩ v) R n k B := by
  obtain ⟨cs, T, P, hr, hz, hx, hq⟩ := h
  exact ⟨cs, T, P, hr.set_other hne _ _, hz, hx, fun i hi => (hq i hi).kept (FrX.refl.set hc)⟩
theorem Bld.lt {w : World} {R n k : Nat} {B : Nat → Bool} (h : Bld X w R n k B) : R < w.heap.size := by
  obtain ⟨cs, T, P, hr, _⟩ := h
  exact hr.lt
theorem Bld.old {w : World} {R n k : Nat} {B : Nat → Bool} (h : Bld X w R n k B) (hk : k < n) : (∃ v, w.cell? ⟨R, k * 2, none⟩ = some v) ∧ (∃ v, w.cell? ⟨R, k * 2 + 1, none⟩ = some v) ∧ ∀ o, w.frozen? ⟨R, o, none⟩ = false := by
  obtain ⟨cs, T, P, hr, hz, _⟩ := h
  exact ⟨⟨_, hr.cellv (Array.getElem?_eq_getElem (by omega))⟩, ⟨_, hr.cellv (Array.getElem?_eq_getElem (by omega))⟩, hr.frozen⟩
/-- A finished row behind a node. -/
theorem Bld.done {w : World} {R n u : Nat} {B : Nat → Bool} {rest : List Value} (h : Bld X w R n n B) (hX : X R) (hn : n ≤ 131072) (hr : RowAt w u (#[.slice (some ⟨R, 0, none⟩) n n] ++ rest.toArray) 64) : Safe (fun _ => False) w 61 u ((List.range n).all B) := fun w' hk => by
  obtain ⟨cs, T, P, hr', hz, hx, hq⟩ := h
  refine arr_node u R n n T P B w' hn ((hk.row hr (by simp)).cellv (by simp)) ⟨cs, hk.row hr' (by simp), hx⟩ fun i hi => ?_
  exact fun w'' hk' => hq i hi w'' ((hk.mono fun _ _ hf => hf.elim).trans (hk'.mono fun j _ e => by rw [e]; exact hX))
end
theorem Safe.far {X : Nat → Prop} {w : World} {U u : Nat} {b : Bool} (h : Safe (fun _ => False) w U u b) (hX : ∀ j, X j → w.heap.size ≤ j) : Safe X w U u b := fun w' hk => h w' (hk.mono fun j hj hx => by have := hX j hx; omega)

end Go.Proofs.Ytmbbabikbmkjpaa.fnIsSafeForConstLocalPrefixConcat
