import Derived.Test.YtfmfniddnlpkmaaDoorKit
import Derived.Test.YtfmfniddnlpkmaaDoorObF
namespace Go.Proofs.YtfmfniddnlpkmaaDoor
open Go.ChangeShapes Go.WideShapes Go.ChangeAt Go.RowKit
set_option linter.unusedVariables false
set_option maxRecDepth 100000
set_option maxHeartbeats 2000000

def New23 (un : Int) (w : World) (e : Ending) (w' : World) : Prop := ∃ p S mm, e = .returned (.pointer (some ⟨p, 0, none⟩)) ∧ OS w' p S mm un 0 0 ∧ Below w.heap.size w w' ∧ w.heap.size ≤ S
def kW : ByteArray := ⟨#[95, 95, 97, 119, 97, 105, 116]⟩
def kF : ByteArray := ⟨#[95, 95, 102, 111, 114, 65, 119, 97, 105, 116]⟩
def rf (k : Nat) : Value := .agg #[.int .i32 0, .int .u32 0, .int .u32 k]
theorem kne : kV ≠ kP ∧ kV ≠ kW ∧ kV ≠ kF ∧ kP ≠ kW ∧ kP ≠ kF := by
  unfold kV kP kW kF
  refine ⟨?_, ?_, ?_, ?_, ?_⟩ <;> simp
theorem putV {F : Value → Option Value} : putF (putF (putF (putF F (.string kV) (rf 0)) (.string kP) (rf 1)) (.string kW) (rf 2)) (.string kF) (rf 3) (.string kV) = some (rf 0) := by
  obtain ⟨a, b, c, d, e⟩ := kne
  simp [putF, a, b, c, d, e]
theorem putP {F : Value → Option Value} : putF (putF (putF (putF F (.string kV) (rf 0)) (.string kP) (rf 1)) (.string kW) (rf 2)) (.string kF) (rf 3) (.string kP) = some (rf 1) := by
  obtain ⟨a, b, c, d, e⟩ := kne
  simp [putF, a, b, c, d, e]
set_option maxHeartbeats 8000000 in
theorem new23 (un : Int) (w : World) : Calls Tryd.prog 23 #[.int .u64 un, .bool false] w (New23 un w) := by
  obtain ⟨i0, hi, hz0, hz1, hz2⟩ := info_parts info59
  have hmm := @run_makeMap Tryd.prog
  go_enter Tryd.func23, Tryd.ntmps23
  go_wp2_with (first
    | (refine wpList_build rfl 198 _ rfl #[(13, .int .u8 6)] (by simp [Act.eval]) _ (build198k _) ?_)
    | (refine wpList_build rfl 98 _ rfl #[(2, .int .u64 un)] (by simp [Act.eval]) _ (build98k un _) ?_)
    | (refine wpList_build rfl 100 _ rfl #[(7, .agg (A98 un _))] (by simp [Act.eval, Act.put]) _ (build100k un _) ?_)
    | (refine wpList_build rfl 182 _ rfl #[(4, .bool false)] (by simp [Act.eval, Act.put]) _ (build182k false _) ?_)
    | (at_make; refine wpList_make_full _ rfl _ _ 44 rfl w.heap.size 59 i0 _ 10 Tryd.underlying44 hi hz0 hz1 .i64 .i64 _ _ 4 rfl rfl rfl rfl (by rw [hz2]; omega) (by unfold maxLen; omega) (by go_size) ?_))
  intro w1 hown hgrow
  obtain ⟨ds, hrow, hB, hcs⟩ := own_cell hown
  have hb1 : Below w.heap.size w w1 := Below.grown ((Below.refl _ _).alloc (Nat.le_refl _) _) hgrow (by simp) (fun k hk => by cases hk)
  have HR := Lib.hid hrow
  have HB1 := Lib.hid hb1
  have d0 : Hid (ds[4]? = some (.int .u32 0)) := (hcs 4 (by decide)).trans (by kernel_rfl)
  have d1 : Hid (ds[14]? = some (.int .u32 0)) := (hcs 14 (by decide)).trans (by kernel_rfl)
  have d2 : Hid (ds[24]? = some (.int .u32 0)) := (hcs 24 (by decide)).trans (by kernel_rfl)
  have d3 : Hid (ds[34]? = some (.int .u32 0)) := (hcs 34 (by decide)).trans (by kernel_rfl)
  clear hrow hB hcs hown hgrow hb1 hi hz0 hz1 hz2
  obtain ⟨n1, n2, n3, n4, n5⟩ := kne
  have hn1 : (if ((putF (fun _ => none) (.string kV) (rf 0)) (.string kP)).isSome then 1 else 1 + 1) = 2 := by simp [putF, n1, n1.symm]
  have hn2 : (if ((putF (putF (fun _ => none) (.string kV) (rf 0)) (.string kP) (rf 1)) (.string kW)).isSome then 2 else 2 + 1) = 3 := by simp [putF, n2, n2.symm, n4, n4.symm]
  have hn3 : (if ((putF (putF (putF (fun _ => none) (.string kV) (rf 0)) (.string kP) (rf 1)) (.string kW) (rf 2)) (.string kF)).isSome then 3 else 3 + 1) = 4 := by
    have n6 : kW ≠ kF := by unfold kW kF; simp
    simp [putF, n3, n3.symm, n5, n5.symm, n6, n6.symm]
  go_wp2_with (refine wpList_insertN rfl (.tmp 14) (.const (.string kV)) (.tmp 16) 140 rfl 9 194 keyS Tryd.underlying140 w1.heap.size 0 1 (fun _ => none) rfl (MapIs.newAt IsStr (by simp)) (.string kV) (rf 0) rfl rfl ⟨_, rfl⟩ rfl ?_)
  intro w2 h2 t2
  have zm : w1.heap.size < w2.heap.size := by have := t2.size; simp at this; omega
  go_wp2_with (refine wpList_insertN rfl (.tmp 14) (.const (.string kP)) (.tmp 18) 140 rfl 9 194 keyS Tryd.underlying140 w1.heap.size 1 2 (putF (fun _ => none) (.string kV) (rf 0)) rfl h2 (.string kP) (rf 1) rfl rfl ⟨_, rfl⟩ hn1 ?_)
  intro w3 h3 t3
  go_wp2_with (refine wpList_insertN rfl (.tmp 14) (.const (.string kW)) (.tmp 20) 140 rfl 9 194 keyS Tryd.underlying140 w1.heap.size 2 3 (putF (putF (fun _ => none) (.string kV) (rf 0)) (.string kP) (rf 1)) rfl h3 (.string kW) (rf 2) rfl rfl ⟨_, rfl⟩ hn2 ?_)
  intro w4 h4 t4
  go_wp2_with (refine wpList_insertN rfl (.tmp 14) (.const (.string kF)) (.tmp 22) 140 rfl 9 194 keyS Tryd.underlying140 w1.heap.size 3 4 (putF (putF (putF (fun _ => none) (.string kV) (rf 0)) (.string kP) (rf 1)) (.string kW) (rf 2)) rfl h4 (.string kF) (rf 3) rfl rfl ⟨_, rfl⟩ hn3 ?_)
  intro w5 h5 t5
  go_wp2_with (refine wpList_build rfl 184 _ rfl #[(0, .agg (A100 un (w.alloc (.cells (A198 w) 198)))), (96, .agg (A182 false (w.alloc (.cells (A198 w) 198)))), (9, .slice (some ⟨w.heap.size + 1, 0, none⟩) 4 4), (20, .map (some w1.heap.size)), (7, .pointer (some ⟨w.heap.size, 0, none⟩)), (58, .pointer (some ⟨w.heap.size, 0, none⟩))] (by simp [Act.eval, Act.put]) _ (build184k un false _ _ _ _ _) ?_)
  go_ret
  have hS : w.heap.size + 1 ≠ w1.heap.size := by have := HR.out.lt; omega
  have r5 : RowAt w5 (w.heap.size + 1) ds 59 := t5.row (t4.row (t3.row (t2.row (HR.out.alloc _) hS) hS) hS) hS
  have hz := HB1.out.size
  have B5 : Below w.heap.size w w5 := ((((HB1.out.alloc hz _).trans (t2.below hz)).trans (t3.below hz)).trans (t4.below hz)).trans (t5.below hz)
  exact ⟨_, _, _, rfl, ⟨⟨_, RowAt.new w5 _ _, oc184 un _ _ _ _ _⟩, ⟨ds, r5.alloc _, d0.out, d1.out, d2.out, d3.out⟩, ⟨_, _, h5.alloc _, putV, putP⟩⟩, B5.alloc B5.size _, Nat.le_succ _⟩

end Go.Proofs.YtfmfniddnlpkmaaDoor
