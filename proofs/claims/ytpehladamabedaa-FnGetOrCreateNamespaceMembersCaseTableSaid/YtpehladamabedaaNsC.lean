import Derived.Test.YtpehladamabedaaKit
import Derived.Test.YtpehladamabedaaNsB
namespace Go.Proofs.Ytpehladamabedaa.fnGetOrCreateNamespaceMembersCaseTable
open Go.ChangeShapes Go.WideShapes Go.ChangeAt Go.RowKit
set_option linter.unusedVariables false
set_option maxRecDepth 100000
set_option maxHeartbeats 2000000

theorem get_out_no (p : Nat) (name : ByteArray) (rk : Nat) (pk sib par : Nat) (w : World) (h : NS w p name false rk pk sib par) :
    Calls Try.prog 57 #[.pointer (some ⟨p, 0, none⟩), .string name, .bool false] w (GotIs w false false rk pk sib par) := by
  obtain ⟨sc, mm, rd, tp, F, c1, c2, c3, c4, hM, hF, ⟨G, n, hG, hg⟩, hT⟩ := h
  have l1 : (Instr.lookup 117 (.map (some mm)) (.string name) true).run Try.prog w = .ok (.tuple #[.agg #[.int .u32 0, .int .u32 0, .int .i32 0], .bool false]) w := by
    have := hM.look keyS Try.underlying117 (zero119 w) ⟨name, rfl⟩ true
    rw [hF] at this
    exact this
  have z1 : p < w.heap.size := cell_lt c1
  have z2 : sc < w.heap.size := cell_lt c3
  have hmm := @run_makeMap Try.prog
  clear hM hF hG hg
  clear hT
  go_enter Try.func57, Try.ntmps57
  go_wp2_with fail
  go_ret
  exact ⟨_, rfl, by go_grown, .inr (.inr ⟨by simp, by simp, by go_size, MapIs.newAt _ (by go_size)⟩)⟩

theorem get_out_ex (p : Nat) (name : ByteArray) (rk : Nat) (pk sib par : Nat) (w : World) (h : NS w p name false rk pk sib par) :
    Calls Try.prog 57 #[.pointer (some ⟨p, 0, none⟩), .string name, .bool true] w (GotIs w false true rk pk sib par) := by
  obtain ⟨sc, mm, rd, tp, F, c1, c2, c3, c4, hM, hF, ⟨G, n, hG, hg⟩, hT⟩ := h
  have l1 : (Instr.lookup 117 (.map (some mm)) (.string name) true).run Try.prog w = .ok (.tuple #[.agg #[.int .u32 0, .int .u32 0, .int .i32 0], .bool false]) w := by
    have := hM.look keyS Try.underlying117 (zero119 w) ⟨name, rfl⟩ true
    rw [hF] at this
    exact this
  have z1 : p < w.heap.size := cell_lt c1
  have z2 : sc < w.heap.size := cell_lt c3
  have hmm := @run_makeMap Try.prog
  clear hM hF hG hg
  rcases hT with ⟨rfl, rfl⟩ | ⟨ts, pm, H, nn, rfl, ct, hP, hh⟩
  · as_aux_lemma =>
    go_enter Try.func57, Try.ntmps57
    go_wp2_with fail
    go_ret
    exact ⟨_, rfl, by go_grown, .inr (.inr ⟨by simp, rfl, by go_size, MapIs.newAt _ (by go_size)⟩)⟩
  rcases hh with ⟨rfl, hp⟩ | ⟨rfl, q, hp, hq⟩ | ⟨rfl, v, hp⟩
  · as_aux_lemma =>
    have l3a : ∀ cs, (Instr.lookup 52 (.map (some pm)) (.string name) true).run Try.prog (w.alloc (.cells cs 119)) = .ok (.tuple #[.agg #[.nilIface, .int .i32 0, .bool false], .bool false]) (w.alloc (.cells cs 119)) := fun cs => by
      have := (hP.alloc (.cells cs 119)).look keyS Try.underlying52 (zero58 _) (v := .string name) ⟨_, rfl⟩ true
      rw [hp] at this
      exact this
    have l3b : ∀ cs m, (Instr.lookup 52 (.map (some pm)) (.string name) true).run Try.prog ((w.alloc (.cells cs 119)).drewN m) = .ok (.tuple #[.agg #[.nilIface, .int .i32 0, .bool false], .bool false]) ((w.alloc (.cells cs 119)).drewN m) := fun cs m => by
      have := ((hP.alloc (.cells cs 119)).kept (w' := (w.alloc (.cells cs 119)).drewN m) rfl).look keyS Try.underlying52 (zero58 _) (v := .string name) ⟨_, rfl⟩ true
      rw [hp] at this
      exact this
    have z4 := cell_lt ct
    simp only at z4
    clear hP hp
    go_enter Try.func57, Try.ntmps57
    go_wp2_with fail
    go_ret
    exact ⟨_, rfl, by go_grown, .inr (.inr ⟨by simp, rfl, by go_size, MapIs.newAt _ (by go_size)⟩)⟩
  · as_aux_lemma =>
    have l3a : ∀ cs, (Instr.lookup 52 (.map (some pm)) (.string name) true).run Try.prog (w.alloc (.cells cs 119)) = .ok (.tuple #[.agg #[.iface 121 (.pointer (some ⟨q, 0, none⟩)), .int .i32 0, .bool false], .bool true]) (w.alloc (.cells cs 119)) := fun cs => by
      have := (hP.alloc (.cells cs 119)).look keyS Try.underlying52 (zero58 _) (v := .string name) ⟨_, rfl⟩ true
      rw [hp] at this
      exact this
    have l3b : ∀ cs m, (Instr.lookup 52 (.map (some pm)) (.string name) true).run Try.prog ((w.alloc (.cells cs 119)).drewN m) = .ok (.tuple #[.agg #[.iface 121 (.pointer (some ⟨q, 0, none⟩)), .int .i32 0, .bool false], .bool true]) ((w.alloc (.cells cs 119)).drewN m) := fun cs m => by
      have := ((hP.alloc (.cells cs 119)).kept (w' := (w.alloc (.cells cs 119)).drewN m) rfl).look keyS Try.underlying52 (zero58 _) (v := .string name) ⟨_, rfl⟩ true
      rw [hp] at this
      exact this
    have z4 := cell_lt ct
    simp only at z4
    clear hP hp
    have z5 : q < w.heap.size := cell_lt hq
    go_enter Try.func57, Try.ntmps57
    go_wp2_with fail
    go_ret
    exact ⟨_, rfl, by go_grown, .inr (.inl ⟨by simp, rfl, rfl, rfl⟩)⟩
  · as_aux_lemma =>
    have l3a : ∀ cs, (Instr.lookup 52 (.map (some pm)) (.string name) true).run Try.prog (w.alloc (.cells cs 119)) = .ok (.tuple #[.agg #[.iface 124 v, .int .i32 0, .bool false], .bool true]) (w.alloc (.cells cs 119)) := fun cs => by
      have := (hP.alloc (.cells cs 119)).look keyS Try.underlying52 (zero58 _) (v := .string name) ⟨_, rfl⟩ true
      rw [hp] at this
      exact this
    have l3b : ∀ cs m, (Instr.lookup 52 (.map (some pm)) (.string name) true).run Try.prog ((w.alloc (.cells cs 119)).drewN m) = .ok (.tuple #[.agg #[.iface 124 v, .int .i32 0, .bool false], .bool true]) ((w.alloc (.cells cs 119)).drewN m) := fun cs m => by
      have := ((hP.alloc (.cells cs 119)).kept (w' := (w.alloc (.cells cs 119)).drewN m) rfl).look keyS Try.underlying52 (zero58 _) (v := .string name) ⟨_, rfl⟩ true
      rw [hp] at this
      exact this
    have z4 := cell_lt ct
    simp only at z4
    clear hP hp
    go_enter Try.func57, Try.ntmps57
    go_wp2_with fail
    go_ret
    exact ⟨_, rfl, by go_grown, .inr (.inr ⟨by simp, rfl, by go_size, MapIs.newAt _ (by go_size)⟩)⟩

theorem get_prop_no (p : Nat) (name : ByteArray) (pk sib par : Nat) (w : World) (h : NS w p name true 2 pk sib par) :
    Calls Try.prog 57 #[.pointer (some ⟨p, 0, none⟩), .string name, .bool false] w (GotIs w true false 2 pk sib par) := by
  obtain ⟨sc, mm, rd, tp, F, c1, c2, c3, c4, hM, hF, ⟨G, n, hG, hg⟩, hT⟩ := h
  have l1 : (Instr.lookup 117 (.map (some mm)) (.string name) true).run Try.prog w = .ok (.tuple #[memV, .bool true]) w := by
    have := hM.look keyS Try.underlying117 (zero119 w) ⟨name, rfl⟩ true
    rw [hF] at this
    exact this
  obtain ⟨v0, hv0⟩ : ∃ v, G refK = some (.iface 124 v) := by
    rcases hg with ⟨h, _⟩ | ⟨_, h⟩ | ⟨h, _⟩
    · cases h
    · exact h
    · cases h
  have l2 : ∀ cs m, (Instr.lookup 120 (.map (some rd)) refK true).run Try.prog ((w.alloc (.cells cs 119)).drewN m) = .ok (.tuple #[.iface 124 v0, .bool true]) ((w.alloc (.cells cs 119)).drewN m) := fun cs m => by
    have := ((hG.alloc (.cells cs 119)).kept (w' := (w.alloc (.cells cs 119)).drewN m) rfl).look keyR Try.underlying120 (zero56 _) (v := refK) ⟨_, _, rfl⟩ true
    rw [hv0] at this
    exact this
  unfold memV at l1
  unfold refK at l2
  clear hv0
  have z1 : p < w.heap.size := cell_lt c1
  have z2 : sc < w.heap.size := cell_lt c3
  have hmm := @run_makeMap Try.prog
  clear hM hF hG hg
  clear hT
  go_enter Try.func57, Try.ntmps57
  go_wp2_with fail
  go_quiet (fail)
  go_wp2_with fail
  go_ret
  exact ⟨_, rfl, by (go_grown; exact below_drewN (by go_grown) _), .inr (.inr ⟨rfl, by simp, by go_size, MapIs.newAt _ (by go_size)⟩)⟩

theorem get_prop_ex (p : Nat) (name : ByteArray) (pk sib par : Nat) (w : World) (h : NS w p name true 2 pk sib par) :
    Calls Try.prog 57 #[.pointer (some ⟨p, 0, none⟩), .string name, .bool true] w (GotIs w true true 2 pk sib par) := by
  obtain ⟨sc, mm, rd, tp, F, c1, c2, c3, c4, hM, hF, ⟨G, n, hG, hg⟩, hT⟩ := h
  have l1 : (Instr.lookup 117 (.map (some mm)) (.string name) true).run Try.prog w = .ok (.tuple #[memV, .bool true]) w := by
    have := hM.look keyS Try.underlying117 (zero119 w) ⟨name, rfl⟩ true
    rw [hF] at this
    exact this
  obtain ⟨v0, hv0⟩ : ∃ v, G refK = some (.iface 124 v) := by
    rcases hg with ⟨h, _⟩ | ⟨_, h⟩ | ⟨h, _⟩
    · cases h
    · exact h
    · cases h
  have l2 : ∀ cs m, (Instr.lookup 120 (.map (some rd)) refK true).run Try.prog ((w.alloc (.cells cs 119)).drewN m) = .ok (.tuple #[.iface 124 v0, .bool true]) ((w.alloc (.cells cs 119)).drewN m) := fun cs m => by
    have := ((hG.alloc (.cells cs 119)).kept (w' := (w.alloc (.cells cs 119)).drewN m) rfl).look keyR Try.underlying120 (zero56 _) (v := refK) ⟨_, _, rfl⟩ true
    rw [hv0] at this
    exact this
  unfold memV at l1
  unfold refK at l2
  clear hv0
  have z1 : p < w.heap.size := cell_lt c1
  have z2 : sc < w.heap.size := cell_lt c3
  have hmm := @run_makeMap Try.prog
  clear hM hF hG hg
  rcases hT with ⟨rfl, rfl⟩ | ⟨ts, pm, H, nn, rfl, ct, hP, hh⟩
  · as_aux_lemma =>
    go_enter Try.func57, Try.ntmps57
    go_wp2_with fail
    go_quiet (fail)
    go_wp2_with fail
    go_ret
    exact ⟨_, rfl, by (go_grown; exact below_drewN (by go_grown) _), .inr (.inr ⟨rfl, rfl, by go_size, MapIs.newAt _ (by go_size)⟩)⟩
  rcases hh with ⟨rfl, hp⟩ | ⟨rfl, q, hp, hq⟩ | ⟨rfl, v, hp⟩
  · as_aux_lemma =>
    have l3a : ∀ cs, (Instr.lookup 52 (.map (some pm)) (.string name) true).run Try.prog (w.alloc (.cells cs 119)) = .ok (.tuple #[.agg #[.nilIface, .int .i32 0, .bool false], .bool false]) (w.alloc (.cells cs 119)) := fun cs => by
      have := (hP.alloc (.cells cs 119)).look keyS Try.underlying52 (zero58 _) (v := .string name) ⟨_, rfl⟩ true
      rw [hp] at this
      exact this
    have l3b : ∀ cs m, (Instr.lookup 52 (.map (some pm)) (.string name) true).run Try.prog ((w.alloc (.cells cs 119)).drewN m) = .ok (.tuple #[.agg #[.nilIface, .int .i32 0, .bool false], .bool false]) ((w.alloc (.cells cs 119)).drewN m) := fun cs m => by
      have := ((hP.alloc (.cells cs 119)).kept (w' := (w.alloc (.cells cs 119)).drewN m) rfl).look keyS Try.underlying52 (zero58 _) (v := .string name) ⟨_, rfl⟩ true
      rw [hp] at this
      exact this
    have z4 := cell_lt ct
    simp only at z4
    clear hP hp
    go_enter Try.func57, Try.ntmps57
    go_wp2_with fail
    go_quiet (fail)
    go_wp2_with fail
    go_ret
    exact ⟨_, rfl, by (go_grown; exact below_drewN (by go_grown) _), .inr (.inr ⟨rfl, rfl, by go_size, MapIs.newAt _ (by go_size)⟩)⟩
  · as_aux_lemma =>
    have l3a : ∀ cs, (Instr.lookup 52 (.map (some pm)) (.string name) true).run Try.prog (w.alloc (.cells cs 119)) = .ok (.tuple #[.agg #[.iface 121 (.pointer (some ⟨q, 0, none⟩)), .int .i32 0, .bool false], .bool true]) (w.alloc (.cells cs 119)) := fun cs => by
      have := (hP.alloc (.cells cs 119)).look keyS Try.underlying52 (zero58 _) (v := .string name) ⟨_, rfl⟩ true
      rw [hp] at this
      exact this
    have l3b : ∀ cs m, (Instr.lookup 52 (.map (some pm)) (.string name) true).run Try.prog ((w.alloc (.cells cs 119)).drewN m) = .ok (.tuple #[.agg #[.iface 121 (.pointer (some ⟨q, 0, none⟩)), .int .i32 0, .bool false], .bool true]) ((w.alloc (.cells cs 119)).drewN m) := fun cs m => by
      have := ((hP.alloc (.cells cs 119)).kept (w' := (w.alloc (.cells cs 119)).drewN m) rfl).look keyS Try.underlying52 (zero58 _) (v := .string name) ⟨_, rfl⟩ true
      rw [hp] at this
      exact this
    have z4 := cell_lt ct
    simp only at z4
    clear hP hp
    have z5 : q < w.heap.size := cell_lt hq
    go_enter Try.func57, Try.ntmps57
    go_wp2_with fail
    go_quiet (fail)
    go_wp2_with fail
    go_ret
    exact ⟨_, rfl, by (go_grown; exact below_drewN (by go_grown) _), .inr (.inl ⟨rfl, rfl, rfl, rfl⟩)⟩
  · as_aux_lemma =>
    have l3a : ∀ cs, (Instr.lookup 52 (.map (some pm)) (.string name) true).run Try.prog (w.alloc (.cells cs 119)) = .ok (.tuple #[.agg #[.iface 124 v, .int .i32 0, .bool false], .bool true]) (w.alloc (.cells cs 119)) := fun cs => by
      have := (hP.alloc (.cells cs 119)).look keyS Try.underlying52 (zero58 _) (v := .string name) ⟨_, rfl⟩ true
      rw [hp] at this
      exact this
    have l3b : ∀ cs m, (Instr.lookup 52 (.map (some pm)) (.string name) true).run Try.prog ((w.alloc (.cells cs 119)).drewN m) = .ok (.tuple #[.agg #[.iface 124 v, .int .i32 0, .bool false], .bool true]) ((w.alloc (.cells cs 119)).drewN m) := fun cs m => by
      have := ((hP.alloc (.cells cs 119)).kept (w' := (w.alloc (.cells cs 119)).drewN m) rfl).look keyS Try.underlying52 (zero58 _) (v := .string name) ⟨_, rfl⟩ true
      rw [hp] at this
      exact this
    have z4 := cell_lt ct
    simp only at z4
    clear hP hp
    go_enter Try.func57, Try.ntmps57
    go_wp2_with fail
    go_quiet (fail)
    go_wp2_with fail
    go_ret
    exact ⟨_, rfl, by (go_grown; exact below_drewN (by go_grown) _), .inr (.inr ⟨rfl, rfl, by go_size, MapIs.newAt _ (by go_size)⟩)⟩

theorem get_free_no (p : Nat) (name : ByteArray) (pk sib par : Nat) (w : World) (h : NS w p name true 0 pk sib par) :
    Calls Try.prog 57 #[.pointer (some ⟨p, 0, none⟩), .string name, .bool false] w (GotIs w true false 0 pk sib par) := by
  obtain ⟨sc, mm, rd, tp, F, c1, c2, c3, c4, hM, hF, ⟨G, n, hG, hg⟩, hT⟩ := h
  have l1 : (Instr.lookup 117 (.map (some mm)) (.string name) true).run Try.prog w = .ok (.tuple #[memV, .bool true]) w := by
    have := hM.look keyS Try.underlying117 (zero119 w) ⟨name, rfl⟩ true
    rw [hF] at this
    exact this
  have hv0 : G refK = none := by
    rcases hg with ⟨h, _⟩ | ⟨h, _⟩ | ⟨_, h⟩
    · cases h
    · cases h
    · exact h
  have l2 : ∀ cs m, (Instr.lookup 120 (.map (some rd)) refK true).run Try.prog ((w.alloc (.cells cs 119)).drewN m) = .ok (.tuple #[.nilIface, .bool false]) ((w.alloc (.cells cs 119)).drewN m) := fun cs m => by
    have := ((hG.alloc (.cells cs 119)).kept (w' := (w.alloc (.cells cs 119)).drewN m) rfl).look keyR Try.underlying120 (zero56 _) (v := refK) ⟨_, _, rfl⟩ true
    rw [hv0] at this
    exact this
  unfold memV at l1
  unfold refK at l2
  clear hv0
  have z1 : p < w.heap.size := cell_lt c1
  have z2 : sc < w.heap.size := cell_lt c3
  have hmm := @run_makeMap Try.prog
  clear hM hF hG hg
  clear hT
  go_enter Try.func57, Try.ntmps57
  go_wp2_with fail
  go_quiet (fail)
  go_wp2_with fail
  go_ret
  exact ⟨_, rfl, by (go_grown; exact below_drewN (by go_grown) _), .inr (.inr ⟨rfl, by simp, by go_size, MapIs.newAt _ (by go_size)⟩)⟩

theorem get_free_ex (p : Nat) (name : ByteArray) (pk sib par : Nat) (w : World) (h : NS w p name true 0 pk sib par) :
    Calls Try.prog 57 #[.pointer (some ⟨p, 0, none⟩), .string name, .bool true] w (GotIs w true true 0 pk sib par) := by
  obtain ⟨sc, mm, rd, tp, F, c1, c2, c3, c4, hM, hF, ⟨G, n, hG, hg⟩, hT⟩ := h
  have l1 : (Instr.lookup 117 (.map (some mm)) (.string name) true).run Try.prog w = .ok (.tuple #[memV, .bool true]) w := by
    have := hM.look keyS Try.underlying117 (zero119 w) ⟨name, rfl⟩ true
    rw [hF] at this
    exact this
  have hv0 : G refK = none := by
    rcases hg with ⟨h, _⟩ | ⟨h, _⟩ | ⟨_, h⟩
    · cases h
    · cases h
    · exact h
  have l2 : ∀ cs m, (Instr.lookup 120 (.map (some rd)) refK true).run Try.prog ((w.alloc (.cells cs 119)).drewN m) = .ok (.tuple #[.nilIface, .bool false]) ((w.alloc (.cells cs 119)).drewN m) := fun cs m => by
    have := ((hG.alloc (.cells cs 119)).kept (w' := (w.alloc (.cells cs 119)).drewN m) rfl).look keyR Try.underlying120 (zero56 _) (v := refK) ⟨_, _, rfl⟩ true
    rw [hv0] at this
    exact this
  unfold memV at l1
  unfold refK at l2
  clear hv0
  have z1 : p < w.heap.size := cell_lt c1
  have z2 : sc < w.heap.size := cell_lt c3
  have hmm := @run_makeMap Try.prog
  clear hM hF hG hg
  rcases hT with ⟨rfl, rfl⟩ | ⟨ts, pm, H, nn, rfl, ct, hP, hh⟩
  · as_aux_lemma =>
    go_enter Try.func57, Try.ntmps57
    go_wp2_with fail
    go_quiet (fail)
    go_wp2_with fail
    go_ret
    exact ⟨_, rfl, by (go_grown; exact below_drewN (by go_grown) _), .inr (.inr ⟨rfl, rfl, by go_size, MapIs.newAt _ (by go_size)⟩)⟩
  rcases hh with ⟨rfl, hp⟩ | ⟨rfl, q, hp, hq⟩ | ⟨rfl, v, hp⟩
  · as_aux_lemma =>
    have l3a : ∀ cs, (Instr.lookup 52 (.map (some pm)) (.string name) true).run Try.prog (w.alloc (.cells cs 119)) = .ok (.tuple #[.agg #[.nilIface, .int .i32 0, .bool false], .bool false]) (w.alloc (.cells cs 119)) := fun cs => by
      have := (hP.alloc (.cells cs 119)).look keyS Try.underlying52 (zero58 _) (v := .string name) ⟨_, rfl⟩ true
      rw [hp] at this
      exact this
    have l3b : ∀ cs m, (Instr.lookup 52 (.map (some pm)) (.string name) true).run Try.prog ((w.alloc (.cells cs 119)).drewN m) = .ok (.tuple #[.agg #[.nilIface, .int .i32 0, .bool false], .bool false]) ((w.alloc (.cells cs 119)).drewN m) := fun cs m => by
      have := ((hP.alloc (.cells cs 119)).kept (w' := (w.alloc (.cells cs 119)).drewN m) rfl).look keyS Try.underlying52 (zero58 _) (v := .string name) ⟨_, rfl⟩ true
      rw [hp] at this
      exact this
    have z4 := cell_lt ct
    simp only at z4
    clear hP hp
    go_enter Try.func57, Try.ntmps57
    go_wp2_with fail
    go_quiet (fail)
    go_wp2_with fail
    go_ret
    exact ⟨_, rfl, by (go_grown; exact below_drewN (by go_grown) _), .inr (.inr ⟨rfl, rfl, by go_size, MapIs.newAt _ (by go_size)⟩)⟩
  · as_aux_lemma =>
    have l3a : ∀ cs, (Instr.lookup 52 (.map (some pm)) (.string name) true).run Try.prog (w.alloc (.cells cs 119)) = .ok (.tuple #[.agg #[.iface 121 (.pointer (some ⟨q, 0, none⟩)), .int .i32 0, .bool false], .bool true]) (w.alloc (.cells cs 119)) := fun cs => by
      have := (hP.alloc (.cells cs 119)).look keyS Try.underlying52 (zero58 _) (v := .string name) ⟨_, rfl⟩ true
      rw [hp] at this
      exact this
    have l3b : ∀ cs m, (Instr.lookup 52 (.map (some pm)) (.string name) true).run Try.prog ((w.alloc (.cells cs 119)).drewN m) = .ok (.tuple #[.agg #[.iface 121 (.pointer (some ⟨q, 0, none⟩)), .int .i32 0, .bool false], .bool true]) ((w.alloc (.cells cs 119)).drewN m) := fun cs m => by
      have := ((hP.alloc (.cells cs 119)).kept (w' := (w.alloc (.cells cs 119)).drewN m) rfl).look keyS Try.underlying52 (zero58 _) (v := .string name) ⟨_, rfl⟩ true
      rw [hp] at this
      exact this
    have z4 := cell_lt ct
    simp only at z4
    clear hP hp
    have z5 : q < w.heap.size := cell_lt hq
    go_enter Try.func57, Try.ntmps57
    go_wp2_with fail
    go_quiet (fail)
    go_wp2_with fail
    go_ret
    exact ⟨_, rfl, by (go_grown; exact below_drewN (by go_grown) _), .inr (.inl ⟨rfl, rfl, rfl, rfl⟩)⟩
  · as_aux_lemma =>
    have l3a : ∀ cs, (Instr.lookup 52 (.map (some pm)) (.string name) true).run Try.prog (w.alloc (.cells cs 119)) = .ok (.tuple #[.agg #[.iface 124 v, .int .i32 0, .bool false], .bool true]) (w.alloc (.cells cs 119)) := fun cs => by
      have := (hP.alloc (.cells cs 119)).look keyS Try.underlying52 (zero58 _) (v := .string name) ⟨_, rfl⟩ true
      rw [hp] at this
      exact this
    have l3b : ∀ cs m, (Instr.lookup 52 (.map (some pm)) (.string name) true).run Try.prog ((w.alloc (.cells cs 119)).drewN m) = .ok (.tuple #[.agg #[.iface 124 v, .int .i32 0, .bool false], .bool true]) ((w.alloc (.cells cs 119)).drewN m) := fun cs m => by
      have := ((hP.alloc (.cells cs 119)).kept (w' := (w.alloc (.cells cs 119)).drewN m) rfl).look keyS Try.underlying52 (zero58 _) (v := .string name) ⟨_, rfl⟩ true
      rw [hp] at this
      exact this
    have z4 := cell_lt ct
    simp only at z4
    clear hP hp
    go_enter Try.func57, Try.ntmps57
    go_wp2_with fail
    go_quiet (fail)
    go_wp2_with fail
    go_ret
    exact ⟨_, rfl, by (go_grown; exact below_drewN (by go_grown) _), .inr (.inr ⟨rfl, rfl, by go_size, MapIs.newAt _ (by go_size)⟩)⟩

theorem get (p : Nat) (name : ByteArray) (mem ex : Bool) (rk pk sib par : Nat) (w : World) (h : NS w p name mem rk pk sib par) :
    Calls Try.prog 57 #[.pointer (some ⟨p, 0, none⟩), .string name, .bool ex] w (GotIs w mem ex rk pk sib par) := by
  have hk : rk = 1 ∨ rk = 2 ∨ rk = 0 := by
    obtain ⟨_, _, _, _, _, _, _, _, _, _, _, ⟨_, _, _, hg⟩, _⟩ := h
    rcases hg with ⟨h, _⟩ | ⟨h, _⟩ | ⟨h, _⟩
    · exact .inl h
    · exact .inr (.inl h)
    · exact .inr (.inr h)
  cases mem
  · cases ex
    · exact get_out_no p name rk pk sib par w h
    · exact get_out_ex p name rk pk sib par w h
  · rcases hk with rfl | rfl | rfl
    · exact get_sib p name ex pk sib par w h
    · cases ex
      · exact get_prop_no p name pk sib par w h
      · exact get_prop_ex p name pk sib par w h
    · cases ex
      · exact get_free_no p name pk sib par w h
      · exact get_free_ex p name pk sib par w h

end Go.Proofs.Ytpehladamabedaa.fnGetOrCreateNamespaceMembersCaseTable
