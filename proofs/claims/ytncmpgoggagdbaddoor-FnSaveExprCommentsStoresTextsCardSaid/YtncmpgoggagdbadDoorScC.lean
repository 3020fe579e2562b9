import Derived.Test.YtncmpgoggagdbadDoorKit
import Derived.Test.YtncmpgoggagdbadDoorScB
import Derived.Test.YtncmpgoggagdbadDoorBig
namespace Go.Proofs.YtncmpgoggagdbadDoor
open Go.ChangeShapes Go.WideShapes Go.ChangeAt Go.RowKit
set_option linter.unusedVariables false
set_option maxRecDepth 100000
set_option maxHeartbeats 2000000

/-- What is known of the parser's cells. -/
structure PC (cs : Array Value) (S : ByteArray) (m rg : Value) : Prop where
  c60 : cs[60]? = some (.string S)
  c113 : cs[113]? = some m
  c202 : cs[202]? = some rg
  c254 : cs[254]? = some (.int .i64 0)
def PS (w : World) (p : Nat) (S : ByteArray) (m rg : Value) : Prop := ∃ cs, RowAt w p cs 159 ∧ PC cs S m rg
theorem PS.lt {w : World} {p : Nat} {S : ByteArray} {m rg : Value} (h : PS w p S m rg) : p < w.heap.size := by
  obtain ⟨cs, hr, _⟩ := h
  exact hr.lt
theorem PS.kept {w w' : World} {p : Nat} {S : ByteArray} {m rg : Value} (h : PS w p S m rg) (hk : w'.heap[p]? = w.heap[p]?) : PS w' p S m rg := by
  obtain ⟨cs, hr, hc⟩ := h
  exact ⟨cs, hk.trans hr, hc⟩
theorem PS.below {w w' : World} {p B : Nat} {S : ByteArray} {m rg : Value} (h : PS w p S m rg) (hb : Below B w w') (hl : p < B) : PS w' p S m rg := h.kept (hb.block p hl)
noncomputable def A47 (S : ByteArray) (w : World) : Array Value := match (Instr.build 47 #[(2, .string S)]).run Tryd.prog w with | .ok (.agg c) _ => c | _ => #[]
theorem build47k (S : ByteArray) (w : World) : (Instr.build 47 #[(2, .string S)]).run Tryd.prog w = .ok (.agg (A47 S w)) w := by kernel_rfl
noncomputable def A159 (S : ByteArray) (m : Option Nat) (w0 w : World) : Array Value := match (Instr.build 159 #[(2, .agg (A47 S w0)), (16, .map m)]).run Tryd.prog w with | .ok (.agg c) _ => c | _ => #[]
theorem build159k (S : ByteArray) (m : Option Nat) (w0 w : World) : (Instr.build 159 #[(2, .agg (A47 S w0)), (16, .map m)]).run Tryd.prog w = .ok (.agg (A159 S m w0 w)) w := by kernel_rfl
theorem pc159 (S : ByteArray) (m : Option Nat) (w0 w : World) : PC (A159 S m w0 w) S (.map m) (.slice none 0 0) := ⟨by kernel_rfl, by kernel_rfl, by kernel_rfl, by kernel_rfl⟩
def New6 (S : ByteArray) (m : Option Nat) (rg : Value) (w : World) (e : Ending) (w' : World) : Prop := ∃ p, e = .returned (.pointer (some ⟨p, 0, none⟩)) ∧ PS w' p S (.map m) rg ∧ Below w.heap.size w w' ∧ w.heap.size ≤ p
theorem new6 (S : ByteArray) (m : Option Nat) (a : Option Addr) (n c : Nat) (w : World) : Calls Tryd.prog 6 #[.string S, .slice a n c, .map m] w (New6 S m (.slice a n c) w) := by
  have hst := fun (A : Addr) (W : World) (mo : Mode) => run_store Tryd.prog W A (.slice a n c) mo rfl
  have q202 := (pc159 S m w w).c202
  go_enter Tryd.func6, Tryd.ntmps6
  go_wp2_with (first
    | (refine wpList_build rfl 47 _ rfl #[(2, .string S)] (by simp [Act.eval]) _ (build47k S _) ?_)
    | (refine wpList_build rfl 159 _ rfl #[(2, .agg (A47 S w)), (16, .map m)] (by simp [Act.eval, Act.put]) _ (build159k S m w _) ?_))
  go_ret
  have q := pc159 S m w w
  have hl : (A159 S m w w).size = 353 := by kernel_rfl
  have e0 : ∀ j, j ≠ 202 → ((A159 S m w w).setIfInBounds 202 (.slice a n c))[j]? = (A159 S m w w)[j]? := fun j hj => by rw [Array.getElem?_setIfInBounds, if_neg (fun e => hj e.symm)]
  have e1 : ((A159 S m w w).setIfInBounds 202 (.slice a n c))[202]? = some (.slice a n c) := by rw [Array.getElem?_setIfInBounds, if_pos rfl, if_pos (by rw [hl]; decide)]
  exact ⟨_, rfl, ⟨_, RowAt.new w _ 159, ⟨(e0 60 (by decide)).trans q.c60, (e0 113 (by decide)).trans q.c113, e1, (e0 254 (by decide)).trans q.c254⟩⟩, by go_grown, Nat.le_refl _⟩
theorem expr8 (p : Nat) (S : ByteArray) (m : Option Nat) (rg : Value) (w : World) (h : PS w p S (.map m) rg) : Calls Tryd.prog 8 #[.pointer (some ⟨p, 0, none⟩)] w fun e w' => e = .returned (.map m) ∧ w = w' := by
  obtain ⟨cs, hr, hc⟩ := h
  have c113 := hr.cellv hc.c113
  clear hr hc
  go_enter Tryd.func8, Tryd.ntmps8
  go_wp2_with fail
  go_ret
  exact ⟨rfl, rfl⟩

end Go.Proofs.YtncmpgoggagdbadDoor
