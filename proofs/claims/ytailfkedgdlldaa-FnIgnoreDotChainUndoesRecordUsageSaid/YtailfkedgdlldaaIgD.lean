import Derived.Test.YtailfkedgdlldaaKit
import Derived.Test.YtailfkedgdlldaaIgC
namespace Go.Proofs.Ytailfkedgdlldaa
open Go.ChangeShapes Go.WideShapes Go.ChangeAt Go.RowKit
set_option linter.unusedVariables false
set_option maxRecDepth 100000
set_option maxHeartbeats 2000000

noncomputable def PO : Array Value := match (Try.prog.info? 114).bind (·.zero) with | some (.agg c) => c | _ => #[]
noncomputable def PJ : Array Value := match (Try.prog.info? 89).bind (·.zero) with | some (.agg c) => c | _ => #[]
theorem build89 (w : World) : (Instr.build 89 #[(6, .bool false)]).run Try.prog w = .ok (.agg PJ) w := by kernel_rfl
theorem build114 (w : World) : (Instr.build 114 #[(1, .agg PJ)]).run Try.prog w = .ok (.agg PO) w := by kernel_rfl
theorem build195p (S : Option Addr) (n c : Nat) (P : Option Addr) (dead : Bool) (a b d e : Option Nat) (sc : Option Addr) (w : World) :
    (Instr.build 195 #[(9, .slice S n c), (8, .pointer P), (108, .bool dead), (20, .map a), (83, .map b), (84, .map d), (43, .map e), (58, .pointer sc), (0, .agg PO)]).run Try.prog w =
      .ok (.agg ((((((((PZ195.setIfInBounds 106 (.slice S n c)).setIfInBounds 105 (.pointer P)).setIfInBounds 350 (.bool dead)).setIfInBounds 117 (.map a)).setIfInBounds 308 (.map b)).setIfInBounds 309 (.map d)).setIfInBounds 172 (.map e)).setIfInBounds 187 (.pointer sc))) w := by kernel_rfl

theorem set_ne {cs : Array Value} {i j : Nat} {a v : Value} (hn : i ≠ j) (h : cs[j]? = some v) : (cs.setIfInBounds i a)[j]? = some v := by
  rw [Array.getElem?_setIfInBounds, if_neg hn]
  exact h
theorem set_eq {cs : Array Value} {i : Nat} {a : Value} (h : i < cs.size) : (cs.setIfInBounds i a)[i]? = some a := by
  rw [Array.getElem?_setIfInBounds, if_pos rfl, if_pos h]

theorem new15 (S n q : Nat) (dead part : Bool) (w : World) : Calls Try.prog 15 #[.slice (some ⟨S, 0, none⟩) n n, .pointer (if part then some ⟨q, 0, none⟩ else none), .bool dead, .bool false] w fun e w' => ∃ p, e = .returned (.pointer (some ⟨p, 0, none⟩)) ∧ (∃ cs, PRow w' p S S q n dead false part cs) ∧ Below w.heap.size w w' := by
  obtain ⟨P, hP⟩ : ∃ P, (if part then some (⟨q, 0, none⟩ : Addr) else none) = P := ⟨_, rfl⟩
  rw [hP]
  have HP := Lib.hid hP
  have hmm := @run_makeMap Try.prog
  clear hP
  go_enter Try.func15, Try.ntmps15
  go_wp2_with (first
    | (refine wpList_build rfl 89 _ rfl #[(6, .bool false)] (by simp [Act.eval]) _ (build89 _) ?_)
    | (refine wpList_build rfl 114 _ rfl #[(1, .agg PJ)] (by simp [Act.eval, Act.put]) _ (build114 _) ?_)
    | (refine wpList_build rfl 195 _ rfl #[(9, .slice (some ⟨S, 0, none⟩) n n), (8, .pointer P), (108, .bool dead), (20, .map (some w.heap.size)), (83, .map (some (w.heap.size + 1))), (84, .map (some (w.heap.size + 1 + 1))), (43, .map (some (w.heap.size + 1 + 1 + 1))), (58, .pointer (some ⟨w.heap.size + 1 + 1 + 1 + 1, 0, none⟩)), (0, .agg PO)] (by simp [Act.eval, Act.put]) _ (build195p _ _ _ _ _ _ _ _ _ _ _) ?_))
  go_ret
  refine ⟨_, rfl, ⟨_, RowAt.newAt (by go_size), ?_, (fun e => by cases e), ?_, ?_, ?_⟩, by go_grown⟩
  · exact set_ne (by decide) (set_ne (by decide) (set_ne (by decide) (set_ne (by decide) (set_ne (by decide) (set_ne (by decide) (set_ne (by decide) (set_eq (by simp))))))))
  · exact set_ne (by decide) (set_ne (by decide) (set_ne (by decide) (set_ne (by decide) (set_ne (by decide) (set_eq (by simp))))))
  · exact set_ne (by decide) (set_ne (by decide) (set_ne (by decide) (set_ne (by decide) (set_ne (by decide) (set_ne (by decide) (set_ne (by decide) (set_ne (by decide) PZ195_32)))))))
  · rw [HP.out]
    exact set_ne (by decide) (set_ne (by decide) (set_ne (by decide) (set_ne (by decide) (set_ne (by decide) (set_ne (by decide) (set_eq (by simp)))))))

theorem ign20 (p S T q m n k c : Nat) (d : Value) (dead ts part : Bool) (f g : Nat → Int) (F : Value → Option Value) (cnt : Nat) (w : World) (h : Mid3 w p S T q m n k dead ts part f g F cnt) (hd : Ch w k c d) :
    Calls Try.prog 20 #[.pointer (some ⟨p, 0, none⟩), .agg #[d, .int .i32 0]] w fun e w' => e = .returned (.tuple #[]) ∧ St w' p S T q m n dead ts part f g F cnt ∧ Fr (XX S T m) w w' := by
  obtain ⟨U, u, rfl⟩ := hd.one
  have H := Lib.hid h
  have HD := Lib.hid hd
  clear h hd
  go_enter Try.func20, Try.ntmps20
  go_wp2_with fail
  refine (chain30 p S T q m n k c _ dead ts part f g F cnt _ (H.out.later (fun j hj => Below.heap_alloc _ _ _ hj)) (HD.out.later (fun j hj => Below.heap_alloc _ _ _ hj))).mono ?_
  rintro e w1 ⟨rfl, h1, h2⟩
  have H1 := Lib.hid h1
  have H2 := Lib.hid (((Fr.refl (X := XX S T m) (w := w)).alloc _).trans h2)
  clear h1 h2
  go_wp2_with fail
  go_end0
  exact ⟨rfl, H1.out, H2.out⟩

theorem syms21 (p S T q m n : Nat) (dead ts part : Bool) (f g : Nat → Int) (F : Value → Option Value) (cnt : Nat) (w : World) (h : St w p S T q m n dead ts part f g F cnt) :
    Calls Try.prog 21 #[.pointer (some ⟨p, 0, none⟩)] w fun e w' => e = .returned (.slice (some ⟨S, 0, none⟩) n n) ∧ w = w' := by
  obtain ⟨⟨cs, h1⟩, _⟩ := h
  have c1 := h1.row.cellv h1.sym
  clear h1
  go_enter Try.func21, Try.ntmps21
  go_wp2_with fail
  go_ret
  exact ⟨rfl, rfl⟩

end Go.Proofs.Ytailfkedgdlldaa
