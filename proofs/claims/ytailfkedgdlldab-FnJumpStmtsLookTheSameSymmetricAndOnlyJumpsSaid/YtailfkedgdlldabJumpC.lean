import Derived.Test.YtailfkedgdlldabKit
import Derived.Test.YtailfkedgdlldabAs
import Derived.Test.YtailfkedgdlldabRow
namespace Go.Proofs.Ytailfkedgdlldab.fnJumpStmtsLookTheSameSymmetricAndOnlyJumps
open Go.ChangeShapes Go.WideShapes Go.ChangeAt Go.RowKit
set_option linter.unusedVariables false
set_option maxRecDepth 100000
set_option maxHeartbeats 2000000

/-- Where a label pointer leads: nowhere, or to a place with a reference of two numbers. -/
def LabAt (w : World) (p : Option Addr) (o : Option (Int × Int)) : Prop :=
  (p = none ∧ o = none) ∨ ∃ b s i, p = some ⟨b, 0, none⟩ ∧ o = some (s, i) ∧ w.cell? ⟨b, 1, none⟩ = some (.int .u32 s) ∧ w.cell? ⟨b, 2, none⟩ = some (.int .u32 i)

theorem LabAt.below {w w' : World} {p : Option Addr} {o : Option (Int × Int)} (h : LabAt w p o) (hb : Below w.heap.size w w') : LabAt w' p o := by
  rcases h with h | ⟨b, s, i, h1, h2, h3, h4⟩
  · exact .inl h
  · exact .inr ⟨b, s, i, h1, h2, later h3 hb, later h4 hb⟩

theorem bb_nn (x y p q : Nat) (w : World) (hx : w.cell? ⟨x, 0, none⟩ = some (.pointer none)) (hy : w.cell? ⟨y, 0, none⟩ = some (.pointer none)) :
    Calls Try.prog 61 #[.iface 149 (.pointer (some ⟨x, 0, none⟩)), .iface 149 (.pointer (some ⟨y, 0, none⟩))] w fun e w' => e = .returned (.bool true) ∧ Below w.heap.size w w' := by
  go_enter Try.func61, Try.ntmps61
  go_wp2
  go_quiet (fail)
  go_wp2
  go_ret
  exact ⟨rfl, below_drewN (by go_grown) _⟩
theorem bb_ns (x y p q : Nat) (w : World) (hx : w.cell? ⟨x, 0, none⟩ = some (.pointer none)) (hy : w.cell? ⟨y, 0, none⟩ = some (.pointer (some ⟨q, 0, none⟩))) :
    Calls Try.prog 61 #[.iface 149 (.pointer (some ⟨x, 0, none⟩)), .iface 149 (.pointer (some ⟨y, 0, none⟩))] w fun e w' => e = .returned (.bool false) ∧ Below w.heap.size w w' := by
  go_enter Try.func61, Try.ntmps61
  go_wp2
  go_quiet (fail)
  go_wp2
  go_ret
  exact ⟨rfl, below_drewN (by go_grown) _⟩
theorem bb_sn (x y p q : Nat) (w : World) (hx : w.cell? ⟨x, 0, none⟩ = some (.pointer (some ⟨p, 0, none⟩))) (hy : w.cell? ⟨y, 0, none⟩ = some (.pointer none)) :
    Calls Try.prog 61 #[.iface 149 (.pointer (some ⟨x, 0, none⟩)), .iface 149 (.pointer (some ⟨y, 0, none⟩))] w fun e w' => e = .returned (.bool false) ∧ Below w.heap.size w w' := by
  go_enter Try.func61, Try.ntmps61
  go_wp2
  go_quiet (fail)
  go_wp2
  go_ret
  exact ⟨rfl, below_drewN (by go_grown) _⟩
theorem bb_ss (x y p q : Nat) (s i t j : Int) (w : World) (hx : w.cell? ⟨x, 0, none⟩ = some (.pointer (some ⟨p, 0, none⟩))) (hy : w.cell? ⟨y, 0, none⟩ = some (.pointer (some ⟨q, 0, none⟩)))
    (h1 : w.cell? ⟨p, 1, none⟩ = some (.int .u32 s)) (h2 : w.cell? ⟨p, 2, none⟩ = some (.int .u32 i)) (h3 : w.cell? ⟨q, 1, none⟩ = some (.int .u32 t)) (h4 : w.cell? ⟨q, 2, none⟩ = some (.int .u32 j)) :
    Calls Try.prog 61 #[.iface 149 (.pointer (some ⟨x, 0, none⟩)), .iface 149 (.pointer (some ⟨y, 0, none⟩))] w fun e w' => e = .returned (.bool (s == t && i == j)) ∧ Below w.heap.size w w' := by
  obtain ⟨A, hA⟩ : ∃ A, (s == t) = A := ⟨_, rfl⟩
  obtain ⟨B, hB⟩ : ∃ B, (i == j) = B := ⟨_, rfl⟩
  rw [hA, hB]
  cases A <;> cases B <;> as_aux_lemma =>
    go_enter Try.func61, Try.ntmps61
    go_wp2
    go_quiet (fail)
    go_wp2
    go_ret
    exact ⟨rfl, below_drewN (by go_grown) _⟩
theorem bb (x y : Nat) (p q : Option Addr) (o1 o2 : Option (Int × Int)) (w : World) (hx : w.cell? ⟨x, 0, none⟩ = some (.pointer p)) (hy : w.cell? ⟨y, 0, none⟩ = some (.pointer q)) (h1 : LabAt w p o1) (h2 : LabAt w q o2) :
    Calls Try.prog 61 #[.iface 149 (.pointer (some ⟨x, 0, none⟩)), .iface 149 (.pointer (some ⟨y, 0, none⟩))] w fun e w' => e = .returned (.bool (decide (o1 = o2))) ∧ Below w.heap.size w w' := by
  rcases h1 with ⟨rfl, rfl⟩ | ⟨a, s, i, rfl, rfl, g1, g2⟩ <;> rcases h2 with ⟨rfl, rfl⟩ | ⟨b, t, j, rfl, rfl, g3, g4⟩
  · exact bb_nn x y 0 0 w hx hy
  · exact bb_ns x y 0 b w hx hy
  · exact bb_sn x y a 0 w hx hy
  · refine (bb_ss x y a b s i t j w hx hy g1 g2 g3 g4).mono fun e w' h => ⟨?_, h.2⟩
    rw [h.1]
    congr 2
    rw [Bool.eq_iff_iff]
    simp
theorem cc_nn (x y p q : Nat) (w : World) (hx : w.cell? ⟨x, 0, none⟩ = some (.pointer none)) (hy : w.cell? ⟨y, 0, none⟩ = some (.pointer none)) :
    Calls Try.prog 61 #[.iface 152 (.pointer (some ⟨x, 0, none⟩)), .iface 152 (.pointer (some ⟨y, 0, none⟩))] w fun e w' => e = .returned (.bool true) ∧ Below w.heap.size w w' := by
  go_enter Try.func61, Try.ntmps61
  go_wp2
  go_quiet (fail)
  go_wp2
  go_ret
  exact ⟨rfl, below_drewN (by go_grown) _⟩
theorem cc_ns (x y p q : Nat) (w : World) (hx : w.cell? ⟨x, 0, none⟩ = some (.pointer none)) (hy : w.cell? ⟨y, 0, none⟩ = some (.pointer (some ⟨q, 0, none⟩))) :
    Calls Try.prog 61 #[.iface 152 (.pointer (some ⟨x, 0, none⟩)), .iface 152 (.pointer (some ⟨y, 0, none⟩))] w fun e w' => e = .returned (.bool false) ∧ Below w.heap.size w w' := by
  go_enter Try.func61, Try.ntmps61
  go_wp2
  go_quiet (fail)
  go_wp2
  go_ret
  exact ⟨rfl, below_drewN (by go_grown) _⟩
theorem cc_sn (x y p q : Nat) (w : World) (hx : w.cell? ⟨x, 0, none⟩ = some (.pointer (some ⟨p, 0, none⟩))) (hy : w.cell? ⟨y, 0, none⟩ = some (.pointer none)) :
    Calls Try.prog 61 #[.iface 152 (.pointer (some ⟨x, 0, none⟩)), .iface 152 (.pointer (some ⟨y, 0, none⟩))] w fun e w' => e = .returned (.bool false) ∧ Below w.heap.size w w' := by
  go_enter Try.func61, Try.ntmps61
  go_wp2
  go_quiet (fail)
  go_wp2
  go_ret
  exact ⟨rfl, below_drewN (by go_grown) _⟩
theorem cc_ss (x y p q : Nat) (s i t j : Int) (w : World) (hx : w.cell? ⟨x, 0, none⟩ = some (.pointer (some ⟨p, 0, none⟩))) (hy : w.cell? ⟨y, 0, none⟩ = some (.pointer (some ⟨q, 0, none⟩)))
    (h1 : w.cell? ⟨p, 1, none⟩ = some (.int .u32 s)) (h2 : w.cell? ⟨p, 2, none⟩ = some (.int .u32 i)) (h3 : w.cell? ⟨q, 1, none⟩ = some (.int .u32 t)) (h4 : w.cell? ⟨q, 2, none⟩ = some (.int .u32 j)) :
    Calls Try.prog 61 #[.iface 152 (.pointer (some ⟨x, 0, none⟩)), .iface 152 (.pointer (some ⟨y, 0, none⟩))] w fun e w' => e = .returned (.bool (s == t && i == j)) ∧ Below w.heap.size w w' := by
  obtain ⟨A, hA⟩ : ∃ A, (s == t) = A := ⟨_, rfl⟩
  obtain ⟨B, hB⟩ : ∃ B, (i == j) = B := ⟨_, rfl⟩
  rw [hA, hB]
  cases A <;> cases B <;> as_aux_lemma =>
    go_enter Try.func61, Try.ntmps61
    go_wp2
    go_quiet (fail)
    go_wp2
    go_ret
    exact ⟨rfl, below_drewN (by go_grown) _⟩
theorem cc (x y : Nat) (p q : Option Addr) (o1 o2 : Option (Int × Int)) (w : World) (hx : w.cell? ⟨x, 0, none⟩ = some (.pointer p)) (hy : w.cell? ⟨y, 0, none⟩ = some (.pointer q)) (h1 : LabAt w p o1) (h2 : LabAt w q o2) :
    Calls Try.prog 61 #[.iface 152 (.pointer (some ⟨x, 0, none⟩)), .iface 152 (.pointer (some ⟨y, 0, none⟩))] w fun e w' => e = .returned (.bool (decide (o1 = o2))) ∧ Below w.heap.size w w' := by
  rcases h1 with ⟨rfl, rfl⟩ | ⟨a, s, i, rfl, rfl, g1, g2⟩ <;> rcases h2 with ⟨rfl, rfl⟩ | ⟨b, t, j, rfl, rfl, g3, g4⟩
  · exact cc_nn x y 0 0 w hx hy
  · exact cc_ns x y 0 b w hx hy
  · exact cc_sn x y a 0 w hx hy
  · refine (cc_ss x y a b s i t j w hx hy g1 g2 g3 g4).mono fun e w' h => ⟨?_, h.2⟩
    rw [h.1]
    congr 2
    rw [Bool.eq_iff_iff]
    simp
theorem d149_152 (x y : Nat) (w : World) : Calls Try.prog 61 #[.iface 149 (.pointer (some ⟨x, 0, none⟩)), .iface 152 (.pointer (some ⟨y, 0, none⟩))] w fun e w' => e = .returned (.bool false) ∧ Below w.heap.size w w' := by
  go_enter Try.func61, Try.ntmps61
  go_wp2
  go_quiet (fail)
  go_wp2
  go_ret
  exact ⟨rfl, below_drewN (by go_grown) _⟩
theorem d149_154 (x y : Nat) (w : World) : Calls Try.prog 61 #[.iface 149 (.pointer (some ⟨x, 0, none⟩)), .iface 154 (.pointer (some ⟨y, 0, none⟩))] w fun e w' => e = .returned (.bool false) ∧ Below w.heap.size w w' := by
  go_enter Try.func61, Try.ntmps61
  go_wp2
  go_quiet (fail)
  go_wp2
  go_ret
  exact ⟨rfl, below_drewN (by go_grown) _⟩
theorem d152_149 (x y : Nat) (w : World) : Calls Try.prog 61 #[.iface 152 (.pointer (some ⟨x, 0, none⟩)), .iface 149 (.pointer (some ⟨y, 0, none⟩))] w fun e w' => e = .returned (.bool false) ∧ Below w.heap.size w w' := by
  go_enter Try.func61, Try.ntmps61
  go_wp2
  go_quiet (fail)
  go_wp2
  go_ret
  exact ⟨rfl, below_drewN (by go_grown) _⟩
theorem d152_154 (x y : Nat) (w : World) : Calls Try.prog 61 #[.iface 152 (.pointer (some ⟨x, 0, none⟩)), .iface 154 (.pointer (some ⟨y, 0, none⟩))] w fun e w' => e = .returned (.bool false) ∧ Below w.heap.size w w' := by
  go_enter Try.func61, Try.ntmps61
  go_wp2
  go_quiet (fail)
  go_wp2
  go_ret
  exact ⟨rfl, below_drewN (by go_grown) _⟩

end Go.Proofs.Ytailfkedgdlldab.fnJumpStmtsLookTheSameSymmetricAndOnlyJumps
