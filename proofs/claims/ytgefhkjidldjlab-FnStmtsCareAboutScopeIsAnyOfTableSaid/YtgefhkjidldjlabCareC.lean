import Derived.Test.YtgefhkjidldjlabKit
import Derived.Test.YtgefhkjidldjlabAs
namespace Go.Proofs.Ytgefhkjidldjlab.fnStmtsCareAboutScopeIsAnyOfTable
open Go.ChangeShapes Go.WideShapes Go.ChangeAt Go.RowKit
set_option linter.unusedVariables false
set_option maxRecDepth 100000
set_option maxHeartbeats 2000000

/-- The pointer types of the statements that never declare anything in their scope. -/
def plainT : List Nat := [182, 185, 188, 190, 193, 196, 199, 202, 205, 208, 211, 214, 219, 223, 226, 229, 233, 235, 238]

/-- The data of a statement, as far as the test looks: does it care about its scope? The flag of a local declaration lies in a block of its own, other than R. -/
def Cares (w : World) (R : Nat) (d : Value) (c : Bool) : Prop :=
  (c = false ∧ ∃ T v, d = .iface T v ∧ T ∈ plainT) ∨ (c = true ∧ d = .nilIface) ∨ (c = true ∧ ∃ T v, d = .iface T v ∧ T ∈ [248, 256, 260]) ∨
  (∃ b k, d = .iface 243 (.pointer (some ⟨b, 0, none⟩)) ∧ w.cell? ⟨b, 1, none⟩ = some (.int .u8 k) ∧ c = (k != 0) ∧ b ≠ R)

theorem norm (c : Int) (w : World) (h1 : -128 ≤ c) (h2 : c ≤ 127) : Calls Try.prog 14 #[.int .i8 c] w fun e w' => e = .returned (.int .i64 (c % 26)) ∧ w = w' := by
  by_cases h : 0 ≤ c
  · go_enter Try.func14, Try.ntmps14
    go_wp2
    go_ret
    exact ⟨rfl, rfl⟩
  · have ht : c.tmod 26 = -((-c) % 26) := by
      have := Int.neg_tmod (-c) 26
      rw [Int.neg_neg] at this
      rw [this, Int.tmod_eq_emod_of_nonneg (by omega)]
    by_cases hz : c % 26 = 0
    · have ht0 : c.tmod 26 = 0 := by omega
      have HZ := Lib.hid hz
      clear ht hz
      go_enter Try.func14, Try.ntmps14
      go_wp2
      go_ret
      exact ⟨ret_int (by rw [HZ.out]), rfl⟩
    · have l1 : c.tmod 26 < 0 := by omega
      have l2 : -26 ≤ c.tmod 26 := by omega
      have HT : Hid (c.tmod 26 + 26 = c % 26) := by unfold Hid; omega
      clear ht hz
      go_enter Try.func14, Try.ntmps14
      go_wp2
      go_ret
      exact ⟨ret_int HT.out, rfl⟩

theorem care_plain (T : Nat) (v : Value) (l : Int) (w : World) (h : T ∈ plainT) : Calls Try.prog 20 #[.agg #[.iface T v, .int .i32 l]] w fun e w' => e = .returned (.bool false) ∧ Below w.heap.size w w' := by
  simp only [plainT, List.mem_cons, List.not_mem_nil, or_false] at h
  rcases h with rfl | rfl | rfl | rfl | rfl | rfl | rfl | rfl | rfl | rfl | rfl | rfl | rfl | rfl | rfl | rfl | rfl | rfl | rfl <;> as_aux_lemma =>
    go_enter Try.func20, Try.ntmps20
    go_wp2
    go_ret
    exact ⟨rfl, by go_grown⟩

theorem care_nil (l : Int) (w : World) : Calls Try.prog 20 #[.agg #[.nilIface, .int .i32 l]] w fun e w' => e = .returned (.bool true) ∧ Below w.heap.size w w' := by
  go_enter Try.func20, Try.ntmps20
  go_wp2
  go_ret
  exact ⟨rfl, by go_grown⟩

theorem care_more (T : Nat) (v : Value) (l : Int) (w : World) (h : T ∈ [248, 256, 260]) : Calls Try.prog 20 #[.agg #[.iface T v, .int .i32 l]] w fun e w' => e = .returned (.bool true) ∧ Below w.heap.size w w' := by
  simp only [List.mem_cons, List.not_mem_nil, or_false] at h
  rcases h with rfl | rfl | rfl <;> as_aux_lemma =>
    go_enter Try.func20, Try.ntmps20
    go_wp2
    go_ret
    exact ⟨rfl, by go_grown⟩

theorem care_local (b : Nat) (k l : Int) (w : World) (hc : w.cell? ⟨b, 1, none⟩ = some (.int .u8 k)) (hb : b < w.heap.size) :
    Calls Try.prog 20 #[.agg #[.iface 243 (.pointer (some ⟨b, 0, none⟩)), .int .i32 l]] w fun e w' => e = .returned (.bool (k != 0)) ∧ Below w.heap.size w w' := by
  go_enter Try.func20, Try.ntmps20
  go_wp2
  go_ret
  exact ⟨rfl, by go_grown⟩

theorem cell_lt {w : World} {a : Addr} {v : Value} (h : w.cell? a = some v) : a.block < w.heap.size := by
  unfold World.cell? at h
  by_cases hlt : a.block < w.heap.size
  · exact hlt
  · rw [Array.getElem?_eq_none (by omega)] at h
    simp at h

theorem care (w : World) (R : Nat) (d : Value) (c : Bool) (l : Int) (h : Cares w R d c) :
    Calls Try.prog 20 #[.agg #[d, .int .i32 l]] w fun e w' => e = .returned (.bool c) ∧ Below w.heap.size w w' := by
  rcases h with ⟨rfl, T, v, rfl, hT⟩ | ⟨rfl, rfl⟩ | ⟨rfl, T, v, rfl, hT⟩ | ⟨b, k, rfl, hc, rfl, _⟩
  · exact care_plain T v l w hT
  · exact care_nil l w
  · exact care_more T v l w hT
  · exact care_local b k l w hc (cell_lt hc)

/-- What a statement is stays, while nothing but new blocks and block R turns. -/
theorem Cares.kept {w w' : World} {R : Nat} {d : Value} {c : Bool} (h : Cares w R d c) (hk : ∀ b, b ≠ R → b < w.heap.size → w'.heap[b]? = w.heap[b]?) : Cares w' R d c := by
  rcases h with h | h | h | ⟨b, k, rfl, hc, hk', hR⟩
  · exact .inl h
  · exact .inr (.inl h)
  · exact .inr (.inr (.inl h))
  · exact .inr (.inr (.inr ⟨b, k, rfl, by rw [World.cell?_of_block (w := w) (hk b hR (cell_lt hc))]; exact hc, hk', hR⟩))

end Go.Proofs.Ytgefhkjidldjlab.fnStmtsCareAboutScopeIsAnyOfTable
