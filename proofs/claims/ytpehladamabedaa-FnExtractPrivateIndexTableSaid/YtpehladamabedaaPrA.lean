import Derived.Test.YtpehladamabedaaKit
import Derived.Test.YtpehladamabedaaMap
import Derived.Test.YtpehladamabedaaBig
import Derived.Test.YtpehladamabedaaAs
import Derived.Laws.RangeString
namespace Go.Proofs.Ytpehladamabedaa.fnExtractPrivateIndexTable
open Go.ChangeShapes Go.WideShapes Go.ChangeAt Go.RowKit
set_option linter.unusedVariables false
set_option maxRecDepth 100000
set_option maxHeartbeats 2000000

theorem mkRef (i : Int) (w : World) : Calls Try.prog 13 #[.int .u32 i] w fun e w' => e = .returned (.agg #[.int .u32 0, .int .u32 i]) ∧ Below w.heap.size w w' := by
  go_enter Try.func13, Try.ntmps13
  go_wp2
  go_returns
  exact ⟨rfl, by go_grown⟩

theorem mkIdent (l i : Int) (w : World) : Calls Try.prog 12 #[.int .i32 l, .agg #[.int .u32 0, .int .u32 i]] w fun e w' => ∃ b, e = .returned (.agg #[.iface 97 (.pointer (some ⟨b, 0, none⟩)), .int .i32 l]) ∧
    w'.cell? ⟨b, 0, none⟩ = some (.int .u32 0) ∧ w'.cell? ⟨b, 1, none⟩ = some (.int .u32 i) ∧ Below w.heap.size w w' := by
  go_enter Try.func12, Try.ntmps12
  go_wp2
  go_returns
  exact ⟨_, rfl, by go_simp, by go_simp, by go_grown⟩

theorem mkPriv (l i : Int) (w : World) : Calls Try.prog 14 #[.int .i32 l, .agg #[.int .u32 0, .int .u32 i]] w fun e w' => ∃ b, e = .returned (.tuple #[.agg #[.iface 40 (.pointer (some ⟨b, 0, none⟩)), .int .i32 l], .pointer (some ⟨b, 0, none⟩)]) ∧
    w'.cell? ⟨b, 0, none⟩ = some (.int .u32 0) ∧ w'.cell? ⟨b, 1, none⟩ = some (.int .u32 i) ∧ Below w.heap.size w w' := by
  go_enter Try.func14, Try.ntmps14
  go_wp2
  go_returns
  exact ⟨_, rfl, by go_simp, by go_simp, by go_grown⟩

theorem mkIndex (l l1 l2 : Int) (T1 T2 : TypeId) (v1 v2 : Value) (w : World) : Calls Try.prog 15 #[.int .i32 l, .agg #[.iface T1 v1, .int .i32 l1], .agg #[.iface T2 v2, .int .i32 l2]] w fun e w' => ∃ b, e = .returned (.agg #[.iface 102 (.pointer (some ⟨b, 0, none⟩)), .int .i32 l]) ∧
    w'.cell? ⟨b, 0, none⟩ = some (.iface T1 v1) ∧ w'.cell? ⟨b, 1, none⟩ = some (.int .i32 l1) ∧ w'.cell? ⟨b, 2, none⟩ = some (.iface T2 v2) ∧ w'.cell? ⟨b, 3, none⟩ = some (.int .i32 l2) ∧ Below w.heap.size w w' := by
  go_enter Try.func15, Try.ntmps15
  go_wp2
  go_returns
  exact ⟨_, rfl, by go_simp, by go_simp, by go_simp, by go_simp, by go_grown⟩

theorem mkDot (l l1 l2 : Int) (T1 : TypeId) (v1 : Value) (s : ByteArray) (w : World) : Calls Try.prog 17 #[.int .i32 l, .agg #[.iface T1 v1, .int .i32 l1], .string s, .int .i32 l2] w fun e w' => ∃ b, e = .returned (.agg #[.iface 111 (.pointer (some ⟨b, 0, none⟩)), .int .i32 l]) ∧ Below w.heap.size w w' := by
  go_enter Try.func17, Try.ntmps17
  go_wp2
  go_returns
  exact ⟨_, rfl, by go_grown⟩

theorem info88 : (Try.prog.info? 88).map (fun i => (i.zero, i.size, i.bytes)) = some (some (.int .u16 0), 1, 2) := by kernel_rfl

theorem utf16x (w : World) : Calls Try.prog 53 #[.string ⟨#[120]⟩] w fun e w' => ∃ a n c, e = .returned (.slice a n c) ∧ Below w.heap.size w w' := by
  obtain ⟨i0, hi, hz0, hz1, hz2⟩ := info_parts info88
  go_enter Try.func53, Try.ntmps53
  go_wp2_with (at_make; refine wpList_make_own _ rfl _ _ 107 rfl w.heap.size 88 i0 _ 1 Try.underlying107 hi hz0 hz1 .i64 .i64 _ 1 rfl rfl (by decide) (by rw [hz2]; omega) (by unfold maxLen; omega) (Nat.le_refl _) ?_)
  intro w1 hown hgrow
  have hb1 : Below w.heap.size w w1 := (Below.refl _ _).grown hgrow (Nat.le_refl _) (fun k hk => by cases hk)
  have hsz := hb1.size
  clear hgrow
  have hn1 : ∀ ty, (Instr.next (.pointer (some ⟨w1.heap.size, 0, none⟩)) true ty).run Try.prog (w1.iter ⟨#[120]⟩ 0) = .ok (.tuple #[.bool true, .int .i64 0, .int .i32 120]) (w1.iter ⟨#[120]⟩ 1) := fun ty => by
    have := run_next_ascii (P := Try.prog) w1 ⟨#[120]⟩ 0 ty (by decide) (by decide)
    exact this
  go_wp2_with fail
  refine wp_loop_rounds 2 ?_
  rw [rounds_succ]
  have ho1 : (w1.iter ⟨#[120]⟩ 1).ownsRow w.heap.size 88 1 (.slice (some ⟨w.heap.size, 0, none⟩) 0 1) 0 [] := hown.alloc _
  go_wp2_with (at_builtin; refine wpList_append_fits _ rfl _ _ 107 rfl w.heap.size 88 i0 1 Try.underlying107 hi hz1 w.heap.size 0 1 [] rfl (ho1.alloc _) _ 1 1 [.int .u16 120] rfl rfl (cell_one_new _ _ _) ?_ (by omega) ?_)
  · intro u hu
    simp at hu
    subst hu
    rfl
  intro w3 hown3 hgrow3
  have hb3 : Below w.heap.size w w3 := by
    refine Below.grown (w' := w3) (w := (w1.iter ⟨#[120]⟩ 1).alloc (.cells #[.int .u16 120] 88)) ?_ hgrow3 ?_ (fun k hk => by cases hk; exact Nat.le_refl _)
    · exact (hb1.trans ((Below.refl _ _).alloc hsz _)).trans ((Below.refl _ _).alloc (by simp [World.iter]; omega) _)
    · simp [World.iter]; omega
  have hlt : w.heap.size < w1.heap.size := by
    obtain ⟨cs, hr, _⟩ := RowAt.of_owns hown
    exact hr.lt
  have hn2 : ∀ ty, (Instr.next (.pointer (some ⟨w1.heap.size, 0, none⟩)) true ty).run Try.prog w3 = .ok (.tuple #[.bool false]) w3 := fun ty => by
    have hb : w3.heap[w1.heap.size]? = some (.stringIter ⟨#[120]⟩ 1) := by
      rw [hgrow3.block w1.heap.size (by simp [World.iter]; omega) (by simp; omega), Below.heap_alloc _ _ _ (by simp [World.iter])]
      exact World.iter_heap _ _ _
    simp [Instr.next, getObj, Sem.run, hb]
    intro h
    exact absurd h (by decide)
  clear hown3 hgrow3 ho1 hown
  go_wp2_with fail
  rw [rounds_succ]
  go_wp2_with fail
  go_ret
  exact ⟨_, _, _, rfl, hb3⟩

end Go.Proofs.Ytpehladamabedaa.fnExtractPrivateIndexTable
