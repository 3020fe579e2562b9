import Derived.Test.YtailfkedgdlldaaKit
import Derived.Test.YtailfkedgdlldaaRdK
namespace Go.Proofs.Ytailfkedgdlldaa
open Go.ChangeShapes Go.WideShapes Go.ChangeAt Go.RowKit
set_option linter.unusedVariables false
set_option maxRecDepth 100000
set_option maxHeartbeats 2000000

/-- The cells of a parser over these. -/
noncomputable def PC (cur mod S q n : Nat) : Array Value := (((PZ195.setIfInBounds 104 (.pointer (some ⟨cur, 0, none⟩))).setIfInBounds 187 (.pointer (some ⟨mod, 0, none⟩))).setIfInBounds 106 (.slice (some ⟨S, 0, none⟩) n n)).setIfInBounds 105 (.pointer (some ⟨q, 0, none⟩))
theorem build195p (cur mod S q n : Nat) (w : World) : (Instr.build 195 #[(7, .pointer (some ⟨cur, 0, none⟩)), (58, .pointer (some ⟨mod, 0, none⟩)), (9, .slice (some ⟨S, 0, none⟩) n n), (8, .pointer (some ⟨q, 0, none⟩))]).run Try.prog w = .ok (.agg (PC cur mod S q n)) w := by kernel_rfl
theorem PC_size (cur mod S q n : Nat) : (PC cur mod S q n).size = 353 := by simp [PC]

theorem set_ne {cs : Array Value} {i j : Nat} {a v : Value} (hn : i ≠ j) (h : cs[j]? = some v) : (cs.setIfInBounds i a)[j]? = some v := by
  rw [Array.getElem?_setIfInBounds, if_neg hn]
  exact h
theorem set_eq {cs : Array Value} {i : Nat} {a : Value} (h : i < cs.size) : (cs.setIfInBounds i a)[i]? = some a := by
  rw [Array.getElem?_setIfInBounds, if_pos rfl, if_pos h]

theorem PC_104 (cur mod S q n : Nat) : (PC cur mod S q n)[104]? = some (.pointer (some ⟨cur, 0, none⟩)) := set_ne (by decide) (set_ne (by decide) (set_ne (by decide) (set_eq (by simp))))
theorem PC_187 (cur mod S q n : Nat) : (PC cur mod S q n)[187]? = some (.pointer (some ⟨mod, 0, none⟩)) := set_ne (by decide) (set_ne (by decide) (set_eq (by simp)))
theorem PC_106 (cur mod S q n : Nat) : (PC cur mod S q n)[106]? = some (.slice (some ⟨S, 0, none⟩) n n) := set_ne (by decide) (set_eq (by simp))
theorem PC_105 (cur mod S q n : Nat) : (PC cur mod S q n)[105]? = some (.pointer (some ⟨q, 0, none⟩)) := set_eq (by simp)

/-- A parser's own row. -/
def PR (w : World) (p q S cur mod n : Nat) : Prop := ∃ cs, RowAt w p cs 195 ∧ cs[104]? = some (.pointer (some ⟨cur, 0, none⟩)) ∧ cs[105]? = some (.pointer (some ⟨q, 0, none⟩)) ∧ cs[106]? = some (.slice (some ⟨S, 0, none⟩) n n) ∧ cs[187]? = some (.pointer (some ⟨mod, 0, none⟩))

def New25 (q S cur mod n : Nat) (w : World) (e : Ending) (w' : World) : Prop := ∃ p, e = .returned (.pointer (some ⟨p, 0, none⟩)) ∧ PR w' p q S cur mod n ∧ Below w.heap.size w w'

theorem new25 (q S cur mod n : Nat) (m : Int) (w : World) : Calls Try.prog 25 #[.pointer (some ⟨cur, 0, none⟩), .pointer (some ⟨mod, 0, none⟩), .slice (some ⟨S, 0, none⟩) n n, .pointer (some ⟨q, 0, none⟩), .int .u8 m, .bool false] w (New25 q S cur mod n w) := by
  go_enter Try.func25, Try.ntmps25
  go_wp2_with (refine wpList_build rfl 195 _ rfl #[(7, .pointer (some ⟨cur, 0, none⟩)), (58, .pointer (some ⟨mod, 0, none⟩)), (9, .slice (some ⟨S, 0, none⟩) n n), (8, .pointer (some ⟨q, 0, none⟩))] (by simp [Act.eval]) _ (build195p cur mod S q n _) ?_)
  go_ret
  exact ⟨w.heap.size, rfl, ⟨_, RowAt.newAt rfl, set_ne (by decide) (set_ne (by decide) (PC_104 _ _ _ _ _)), set_ne (by decide) (set_ne (by decide) (PC_105 _ _ _ _ _)), set_ne (by decide) (set_ne (by decide) (PC_106 _ _ _ _ _)), set_ne (by decide) (set_ne (by decide) (PC_187 _ _ _ _ _))⟩, by go_grown⟩

end Go.Proofs.Ytailfkedgdlldaa
