import Derived.Test.YtpehladamabedaaKit
import Derived.Test.YtpehladamabedaaNsA
namespace Go.Proofs.Ytpehladamabedaa.fnGetOrCreateNamespaceMembersCaseTable
open Go.ChangeShapes Go.WideShapes Go.ChangeAt Go.RowKit
set_option linter.unusedVariables false
set_option maxRecDepth 100000
set_option maxHeartbeats 2000000

def refK : Value := .agg #[.int .u32 0, .int .u32 7]
def memV : Value := .agg #[.int .u32 0, .int .u32 7, .int .i32 0]

/-- What the data map holds at the ref: nothing (0), a namespace whose members are sib (1), a property (2). -/
def RefD (w : World) (rd sib : Nat) (k : Nat) : Prop :=
  ∃ F n, MapIs w rd IsPair F n ∧ ((k = 1 ∧ ∃ q, F refK = some (.iface 121 (.pointer (some ⟨q, 0, none⟩))) ∧ w.cell? ⟨q, 0, none⟩ = some (.map (some sib))) ∨ (k = 2 ∧ ∃ v, F refK = some (.iface 124 v)) ∨ (k = 0 ∧ F refK = none))

/-- The enclosing namespace: none (0), one without the name (1), with a namespace of that name whose members are par (2), with a property of that name (3). -/
def TSD (w : World) (tp : Option Addr) (name : ByteArray) (par k : Nat) : Prop :=
  (k = 0 ∧ tp = none) ∨ ∃ ts pm F n, tp = some ⟨ts, 0, none⟩ ∧ w.cell? ⟨ts, 0, none⟩ = some (.map (some pm)) ∧ MapIs w pm IsStr F n ∧
    ((k = 1 ∧ F (.string name) = none) ∨ (k = 2 ∧ ∃ q, F (.string name) = some (.agg #[.iface 121 (.pointer (some ⟨q, 0, none⟩)), .int .i32 0, .bool false]) ∧ w.cell? ⟨q, 0, none⟩ = some (.map (some par))) ∨
      (k = 3 ∧ ∃ v, F (.string name) = some (.agg #[.iface 124 v, .int .i32 0, .bool false])))

def NS (w : World) (p : Nat) (name : ByteArray) (mem : Bool) (rk pk sib par : Nat) : Prop :=
  ∃ sc mm rd tp F, w.cell? ⟨p, 104, none⟩ = some (.pointer (some ⟨sc, 0, none⟩)) ∧ w.cell? ⟨p, 158, none⟩ = some (.map (some rd)) ∧ w.cell? ⟨sc, 0, none⟩ = some (.pointer tp) ∧ w.cell? ⟨sc, 3, none⟩ = some (.map (some mm)) ∧
    MapIs w mm IsStr F 1 ∧ F (.string name) = (if mem then some memV else none) ∧ RefD w rd sib rk ∧ TSD w tp name par pk

/-- What comes back. -/
def GotIs (w : World) (mem ex : Bool) (rk pk sib par : Nat) (e : Ending) (w' : World) : Prop :=
  ∃ g, e = .returned (.map (some g)) ∧ Below w.heap.size w w' ∧ ((mem = true ∧ rk = 1 ∧ g = sib) ∨ ((mem && rk == 1) = false ∧ ex = true ∧ pk = 2 ∧ g = par) ∨
    ((mem && rk == 1) = false ∧ (ex && pk == 2) = false ∧ w.heap.size ≤ g ∧ MapIs w' g IsStr (fun _ => none) 0))

theorem below_drewN {B : Nat} {w w' : World} (h : Below B w w') (n : Nat) : Below B w (w'.drewN n) := ⟨h.os, h.tape, h.output, h.size, h.block⟩

/-- The name is in scope as a sibling namespace. -/
theorem get_sib (p : Nat) (name : ByteArray) (ex : Bool) (pk sib par : Nat) (w : World) (h : NS w p name true 1 pk sib par) :
    Calls Try.prog 57 #[.pointer (some ⟨p, 0, none⟩), .string name, .bool ex] w (GotIs w true ex 1 pk sib par) := by
  obtain ⟨sc, mm, rd, tp, F, c1, c2, c3, c4, hM, hF, ⟨G, n, hG, hg⟩, hT⟩ := h
  rcases hg with ⟨_, q, hq, hc⟩ | ⟨h, _⟩ | ⟨h, _⟩
  · have l1 : (Instr.lookup 117 (.map (some mm)) (.string name) true).run Try.prog w = .ok (.tuple #[memV, .bool true]) w := by
      have := hM.look keyS Try.underlying117 (zero119 w) ⟨name, rfl⟩ true
      rw [hF] at this
      exact this
    have l2 : ∀ cs m, (Instr.lookup 120 (.map (some rd)) refK true).run Try.prog ((w.alloc (.cells cs 119)).drewN m) = .ok (.tuple #[.iface 121 (.pointer (some ⟨q, 0, none⟩)), .bool true]) ((w.alloc (.cells cs 119)).drewN m) := fun cs m => by
      have := ((hG.alloc (.cells cs 119)).kept (w' := (w.alloc (.cells cs 119)).drewN m) rfl).look keyR Try.underlying120 (zero56 _) (v := refK) ⟨_, _, rfl⟩ true
      rw [hq] at this
      exact this
    have z1 := cell_lt c1
    have z2 := cell_lt c2
    have z3 := cell_lt hc
    unfold memV at l1
    unfold refK at l2
    simp only at z1 z2 z3
    clear hM hF hG hq hT
    go_enter Try.func57, Try.ntmps57
    go_wp2_with fail
    go_quiet (fail)
    go_wp2_with fail
    go_ret
    exact ⟨sib, rfl, below_drewN (by go_grown) _, .inl ⟨rfl, rfl, rfl⟩⟩
  · cases h
  · cases h

end Go.Proofs.Ytpehladamabedaa.fnGetOrCreateNamespaceMembersCaseTable
