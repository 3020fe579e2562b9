import Derived.Test.YtfbjlgjlbndmkadDoorKit
import Derived.Test.YtfbjlgjlbndmkadDoorLaE
namespace Go.Proofs.YtfbjlgjlbndmkadDoor
open Go.ChangeShapes Go.WideShapes Go.ChangeAt Go.RowKit
set_option linter.unusedVariables false
set_option maxRecDepth 100000
set_option maxHeartbeats 2000000

open Go.MuLone
noncomputable def A81 (tk : Int) (w : World) : Array Value := match (Instr.build 81 #[(32, .int .u8 tk)]).run Tryd.prog w with | .ok (.agg c) _ => c | _ => #[]
theorem build81k (tk : Int) (w : World) : (Instr.build 81 #[(32, .int .u8 tk)]).run Tryd.prog w = .ok (.agg (A81 tk w)) w := by kernel_rfl
noncomputable def A165 (k mu he ms : Nat) (tk : Int) (b : Bool) (w0 w : World) : Array Value := match (Instr.build 165 #[(1, .agg (logV k mu he ms)), (68, .agg (A81 tk w0)), (99, .bool b)]).run Tryd.prog w with | .ok (.agg c) _ => c | _ => #[]
theorem build165k (k mu he ms : Nat) (tk : Int) (b : Bool) (w0 w : World) : (Instr.build 165 #[(1, .agg (logV k mu he ms)), (68, .agg (A81 tk w0)), (99, .bool b)]).run Tryd.prog w = .ok (.agg (A165 k mu he ms tk b w0 w)) w := by kernel_rfl
/-- A parser with this log and without a source for its tracker. -/
def PL (p k mu he ms : Nat) (W : World) : Prop := ∃ cs, RowAt W p cs 165 ∧ (cs.toList.drop 51).take 6 = (logV k mu he ms).toList ∧ cs[76]? = some (.bool false)
theorem PL.kp {p k mu he ms : Nat} {W W' : World} (h : PL p k mu he ms W) (hk : Kp W W') : PL p k mu he ms W' := by
  obtain ⟨cs, r, h1, h2⟩ := h
  exact ⟨cs, hk p cs 165 (by decide) (by decide) (by decide) (by decide) r, h1, h2⟩
def NewPar (B : Nat) (W : World) (e : Ending) (W' : World) : Prop := ∃ p k mu he ms, e = .returned (.pointer (some ⟨p, 0, none⟩)) ∧ LG B k mu he ms 0 (.slice none 0 0) 0 [] W' ∧ PL p k mu he ms W' ∧ Below W.heap.size W W'
set_option maxHeartbeats 4000000 in
theorem newpar4 (W : World) (B : Nat) (hB : B ≤ W.heap.size) (tk : Int) : Calls Tryd.prog 4 #[.bool false, .int .u8 tk] W (NewPar B W) := by
  go_enter Tryd.func4, Tryd.ntmps4
  go_wp2_with fail
  refine (newlog7 W B hB).mono ?_
  rintro e1 w1 ⟨k, mu, he, ms, rfl, H, hb⟩
  have HH := Lib.hid (And.intro H hb)
  clear H hb
  go_wp2_with (first
    | (refine wpList_build rfl 81 _ rfl #[(32, .int .u8 tk)] (by simp [Act.eval, Act.put]) _ (build81k tk _) ?_)
    | (refine wpList_build rfl 165 _ rfl #[(1, .agg (logV k mu he ms)), (68, .agg (A81 tk w1)), (99, .bool false)] (by simp [Act.eval, Act.put]) _ (build165k k mu he ms tk false w1 _) ?_))
  go_ret
  exact ⟨_, k, mu, he, ms, rfl, HH.out.1.later ((Below.refl _ _).alloc (Nat.le_refl _) _), ⟨_, RowAt.new w1 _ 165, by kernel_rfl, by kernel_rfl⟩, HH.out.2.alloc HH.out.2.size _⟩
theorem msgs6 (B p k mu he ms : Nat) (kd : Int) (v : Value) (n : Nat) (xs : List Value) (Nt : Nat → Option Addr × Nat × Nat) (T : Nat → ByteArray) (W : World) (H : LG B k mu he ms kd v n xs W) (hP : PL p k mu he ms W) (hM : MsgList n Nt T xs) (hn : n ≤ 19) :
    Calls Tryd.prog 6 #[.pointer (some ⟨p, 0, none⟩)] W (DoneIs B k mu he ms kd v n xs W) := by
  obtain ⟨cs, r, h1, h2⟩ := hP
  have c54 := r.cellv (j := 54) (v := .func (Fn.func 14) #[] #[.pointer (some ⟨mu, 0, none⟩), .pointer (some ⟨ms, 0, none⟩)]) (by
    have := congrArg (·[3]?) h1
    simp only [List.getElem?_take, List.getElem?_drop] at this
    have e : cs[54]? = (logV k mu he ms)[3]? := by simpa using this
    exact e)
  have HH := Lib.hid H
  have HM := Lib.hid hM
  clear r h1 h2 H hM
  go_enter Tryd.func6, Tryd.ntmps6
  go_wp2_with fail
  refine (done14 B k mu he ms kd v n xs Nt T W HH.out HM.out hn).mono ?_
  rintro e1 w1 ⟨rfl, h1, h2, h3⟩
  have HE := Lib.hid (And.intro h1 (And.intro h2 h3))
  clear h1 h2 h3
  go_wp2_with fail
  go_ret
  exact ⟨rfl, HE.out⟩

end Go.Proofs.YtfbjlgjlbndmkadDoor
