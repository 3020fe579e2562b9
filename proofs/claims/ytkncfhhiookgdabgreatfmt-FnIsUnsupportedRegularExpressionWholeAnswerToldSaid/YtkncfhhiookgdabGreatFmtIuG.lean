import Derived.Test.YtkncfhhiookgdabGreatFmtKit
import Derived.Test.YtkncfhhiookgdabGreatFmtIuE
namespace Go.Proofs.YtkncfhhiookgdabGreatFmt
open Go.ChangeShapes Go.WideShapes Go.ChangeAt Go.RowKit
set_option linter.unusedVariables false
set_option maxRecDepth 100000
set_option maxHeartbeats 2000000

open Go.MuLone Go.Extern
noncomputable def A162 (k mu he ms : Nat) (w : World) : Array Value := match (Instr.build 162 #[(1, .agg (logV k mu he ms))]).run Tryz.prog w with | .ok (.agg c) _ => c | _ => #[]
theorem build162k (k mu he ms : Nat) (w : World) : (Instr.build 162 #[(1, .agg (logV k mu he ms))]).run Tryz.prog w = .ok (.agg (A162 k mu he ms w)) w := by kernel_rfl
theorem a162 (k mu he ms : Nat) (w : World) : ((A162 k mu he ms w).toList.drop 51).take 6 = (logV k mu he ms).toList ∧ (A162 k mu he ms w)[76]? = some (.bool false) ∧ (A162 k mu he ms w)[18]? = some (.string ⟨#[]⟩) ∧ (A162 k mu he ms w)[25]? = some (.int .u64 0) ∧ (A162 k mu he ms w)[23]? = some (.int .u64 0) := ⟨by kernel_rfl, by kernel_rfl, by kernel_rfl, by kernel_rfl, by kernel_rfl⟩
/-- A parser with this log, these unsupported features, no source for its tracker and no target environment. -/
def PX (p k mu he ms : Nat) (f : Int) (W : World) : Prop := ∃ cs, RowAt W p cs 162 ∧ (cs.toList.drop 51).take 6 = (logV k mu he ms).toList ∧ cs[76]? = some (.bool false) ∧ cs[18]? = some (.string ⟨#[]⟩) ∧ cs[25]? = some (.int .u64 0) ∧ cs[23]? = some (.int .u64 f)
theorem PX.kp {p k mu he ms : Nat} {f : Int} {W W' : World} (h : PX p k mu he ms f W) (hk : Kp W W') : PX p k mu he ms f W' := by
  obtain ⟨cs, r, h1, h2⟩ := h
  exact ⟨cs, hk p cs 162 (by decide) (by decide) (by decide) (by decide) r, h1, h2⟩
def NewPX (B : Nat) (f : Int) (W : World) (e : Ending) (W' : World) : Prop := ∃ p k mu he ms, e = .returned (.pointer (some ⟨p, 0, none⟩)) ∧ LG B k mu he ms 0 (.slice none 0 0) 0 [] false W' ∧ PX p k mu he ms f W' ∧ Below W.heap.size W W'
theorem sets_take {cs : Array Value} {v : Value} {vs : List Value} (h : (cs.toList.drop 51).take 6 = vs) : ((cs.setIfInBounds 23 v).toList.drop 51).take 6 = vs := by
  rw [← h]
  apply List.ext_getElem?
  intro i
  simp only [List.getElem?_take, List.getElem?_drop]
  split
  · simp only [Array.getElem?_toList, Array.getElem?_setIfInBounds]
    rw [if_neg (by omega)]
  · rfl
theorem sets_get {cs : Array Value} {v x : Value} {i : Nat} (h : cs[i]? = some x) (hi : i ≠ 23) : (cs.setIfInBounds 23 v)[i]? = some x := by
  rw [Array.getElem?_setIfInBounds, if_neg (by omega)]
  exact h
theorem sets_same {cs : Array Value} {v x : Value} (h : cs[23]? = some x) : (cs.setIfInBounds 23 v)[23]? = some v := by
  have hs : 23 < cs.size := by
    rcases Nat.lt_or_ge 23 cs.size with h' | h'
    · exact h'
    · rw [Array.getElem?_eq_none h'] at h; cases h
  rw [Array.getElem?_setIfInBounds, if_pos rfl, if_pos hs]
set_option maxHeartbeats 4000000 in
theorem new7 (W : World) (B : Nat) (hB : B ≤ W.heap.size) (f : Int) : Calls Tryz.prog 7 #[.int .u64 f] W (NewPX B f W) := by
  go_enter Tryz.func7, Tryz.ntmps7
  go_wp2_with fail
  refine (newlog15 W B hB).mono ?_
  rintro e1 w1 ⟨k, mu, he, ms, rfl, H, hb⟩
  obtain ⟨q1, q2, q3, q4, q5⟩ := a162 k mu he ms w1
  have hbk := build162k k mu he ms w1
  generalize A162 k mu he ms w1 = C at q1 q2 q3 q4 q5 hbk
  have HK := Lib.hid hbk
  have hw := hb.size
  have HH := Lib.hid (And.intro H (And.intro hb (And.intro q1 (And.intro q2 (And.intro q3 (And.intro q4 q5))))))
  clear H hb hbk q1 q2 q3 q4 q5
  go_upto_region 2 with (refine wpList_build rfl 162 _ rfl #[(1, .agg (logV k mu he ms))] (by simp [Act.eval, Act.put]) _ HK.out ?_)
  have r0 := RowAt.new w1 C 162
  have hl := HH.out.1.later ((Below.refl _ _).alloc (Nat.le_refl _) (.cells C 162))
  have hb1 : Below W.heap.size W (w1.alloc (.cells C 162)) := HH.out.2.1.alloc hw _
  obtain ⟨p, hp⟩ : ∃ p, p = w1.heap.size := ⟨_, rfl⟩
  have hpw : W.heap.size ≤ p := by omega
  rw [← hp] at r0 ⊢
  clear hp
  generalize w1.alloc (.cells C 162) = X at r0 hl hb1 ⊢
  have c23 := r0.cellv HH.out.2.2.2.2.2.2
  have f23 := r0.frozen 23
  have lp := r0.lt
  have HX := Lib.hid (And.intro r0 (And.intro hl (And.intro hb1 hpw)))
  clear r0 hl hb1 hpw
  go_wp2_with fail
  go_ret
  obtain ⟨r0, hl, hb1, hpw⟩ := HX.out
  obtain ⟨_, _, q1, q2, q3, q4, q5⟩ := HH.out
  have hne : ∀ {g : Nat} {cs : Array Value} {t : TypeId}, t ≠ 162 → RowAt X g cs t → RowAt (X.setCell ⟨p, 23, none⟩ (.int .u64 f)) g cs t := fun {g cs t} ht r => r.set_other (r.diff r0 ht) _ _
  refine ⟨p, k, mu, he, ms, rfl, ⟨hne (by decide) hl.rk, hne (by decide) hl.rm, hne (by decide) hl.rh, hne (by decide) hl.rs, ⟨rfl, .inl ⟨rfl, rfl⟩⟩, ?_, hl.bk, hl.bm, hl.bh, hl.bs⟩, ⟨_, r0.set 23 (.int .u64 f), sets_take q1, sets_get q2 (by decide), sets_get q3 (by decide), sets_get q4 (by decide), sets_same q5⟩, hb1.setCell hpw _⟩
  simpa using hl.hB
theorem PX.at {p k mu he ms : Nat} {f : Int} {W : World} (h : PX p k mu he ms f W) : W.cell? ⟨p, 52, none⟩ = some (.func (Fn.func 21) #[] #[.pointer (some ⟨mu, 0, none⟩), .pointer (some ⟨he, 0, none⟩)]) ∧ W.cell? ⟨p, 76, none⟩ = some (.bool false) ∧ W.cell? ⟨p, 18, none⟩ = some (.string ⟨#[]⟩) ∧ W.cell? ⟨p, 25, none⟩ = some (.int .u64 0) ∧ W.cell? ⟨p, 23, none⟩ = some (.int .u64 f) ∧ p < W.heap.size := by
  obtain ⟨cs, r, h1, h2, h3, h4, h5⟩ := h
  refine ⟨r.cellv (j := 52) ?_, r.cellv h2, r.cellv h3, r.cellv h4, r.cellv h5, r.lt⟩
  have := congrArg (·[1]?) h1
  simp only [List.getElem?_take, List.getElem?_drop] at this
  have e : cs[52]? = (logV k mu he ms)[1]? := by simpa using this
  exact e
theorem zz9 (B p k mu he ms : Nat) (f : Int) (v : Value) (n : Nat) (xs : List Value) (fl : Bool) (W : World) (H : LG B k mu he ms 0 v n xs fl W) (hP : PX p k mu he ms f W) :
    Calls Tryz.prog 9 #[.pointer (some ⟨p, 0, none⟩)] W fun e W' => e = .returned (.bool fl) ∧ Below B W W' := by
  obtain ⟨c52, _, _, _, _, lp⟩ := hP.at
  have HH := Lib.hid H
  clear H hP
  go_enter Tryz.func9, Tryz.ntmps9
  go_wp2_with fail
  refine (has21 B k mu he ms v n xs fl W HH.out).mono ?_
  rintro e1 w1 ⟨rfl, hb⟩
  have HB := Lib.hid hb
  clear hb
  go_wp2_with fail
  go_ret
  exact ⟨rfl, HB.out⟩
theorem PX.log {p k mu he ms : Nat} {f : Int} {W : World} (h : PX p k mu he ms f W) : W.cell? ⟨p, 51, none⟩ = some (.func (Fn.func 18) #[] #[.pointer (some ⟨k, 0, none⟩), .pointer (some ⟨mu, 0, none⟩), .pointer (some ⟨he, 0, none⟩), .pointer (some ⟨ms, 0, none⟩)]) ∧ W.cell? ⟨p, 52, none⟩ = some (.func (Fn.func 21) #[] #[.pointer (some ⟨mu, 0, none⟩), .pointer (some ⟨he, 0, none⟩)]) ∧ W.cell? ⟨p, 53, none⟩ = some (.func (Fn.func 22) #[] #[.pointer (some ⟨mu, 0, none⟩), .pointer (some ⟨ms, 0, none⟩)]) ∧ W.cell? ⟨p, 54, none⟩ = some (.func (Fn.func 23) #[] #[.pointer (some ⟨mu, 0, none⟩), .pointer (some ⟨ms, 0, none⟩)]) ∧ W.cell? ⟨p, 55, none⟩ = some (.int .i8 3) ∧ W.cell? ⟨p, 56, none⟩ = some (.map none) := by
  obtain ⟨cs, r, h1, _⟩ := h
  have q : ∀ i, i < 6 → cs[51 + i]? = (logV k mu he ms)[i]? := fun i hi => by
    have := congrArg (·[i]?) h1
    simp only [List.getElem?_take, List.getElem?_drop, hi, if_true] at this
    simpa using this
  exact ⟨r.cellv (q 0 (by omega)), r.cellv (q 1 (by omega)), r.cellv (q 2 (by omega)), r.cellv (q 3 (by omega)), r.cellv (q 4 (by omega)), r.cellv (q 5 (by omega))⟩

end Go.Proofs.YtkncfhhiookgdabGreatFmt
