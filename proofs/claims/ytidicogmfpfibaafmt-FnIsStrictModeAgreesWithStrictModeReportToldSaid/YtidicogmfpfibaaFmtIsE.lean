import Derived.Test.YtidicogmfpfibaaFmtKit
import Derived.Test.YtidicogmfpfibaaFmtIsD
import Derived.Test.YtidicogmfpfibaaFmtBig
namespace Go.Proofs.YtidicogmfpfibaaFmt
open Go.ChangeShapes Go.WideShapes Go.ChangeAt Go.RowKit
set_option linter.unusedVariables false
set_option maxRecDepth 100000
set_option maxHeartbeats 2000000

open Go.MuLone
theorem strict11 (p k mu he ms sc ts : Nat) (fm kd : Int) (W : World) (h : PS p k mu he ms sc ts fm kd W) : Calls Tryf.prog 11 #[.pointer (some ⟨p, 0, none⟩)] W fun e W' => e = .returned (.bool (kd != 0)) ∧ W' = W := by
  obtain ⟨cs, b, r, -, -, h3, ⟨ss, rs, h4⟩, -⟩ := h
  have c1 := r.cellv (h3.get 12 rfl)
  have c2 := rs.cellv (h4.get 1 rfl)
  have hp := r.lt
  have hs := rs.lt
  clear r h3 rs h4
  go_enter Tryf.func11, Tryf.ntmps11
  go_wp2
  go_ret
  exact ⟨rfl, rfl⟩
theorem esm17 (p k mu he ms sc ts : Nat) (fm kd : Int) (hfm : fm ≠ 3) (W : World) (h : PS p k mu he ms sc ts fm kd W) : Calls Tryf.prog 17 #[.pointer (some ⟨p, 0, none⟩)] W fun e W' => e = .returned (.bool false) ∧ W' = W := by
  obtain ⟨cs, b, r, -, -, h3, -⟩ := h
  have c1 := r.cellv (h3.get 8 rfl)
  have hp := r.lt
  have hf : (fm == 3) = false := by simpa using hfm
  clear r h3
  go_enter Tryf.func17, Tryf.ntmps17
  go_wp2
  go_ret
  exact ⟨by simp [hfm], rfl⟩
def EsmIs (W : World) (e : Ending) (W' : World) : Prop := e = .returned (.tuple #[.int .u8 0, .slice none 0 0]) ∧ W' = W
set_option maxHeartbeats 4000000 in
theorem esm28 (p k mu he ms sc ts : Nat) (fm kd : Int) (W : World) (h : PS p k mu he ms sc ts fm kd W) : Calls Tryf.prog 28 #[.pointer (some ⟨p, 0, none⟩)] W (EsmIs W) := by
  obtain ⟨cs, b, r, -, -, h3, -⟩ := h
  have c1 := r.cellv (h3.get 13 rfl)
  have c2 := r.cellv (h3.get 14 rfl)
  have c3 := r.cellv (h3.get 15 rfl)
  have c4 := r.cellv (h3.get 18 rfl)
  have c5 := r.cellv (h3.get 7 rfl)
  have hp := r.lt
  clear r h3
  go_enter Tryf.func28, Tryf.ntmps28
  go_wp2
  refine bodyPost_ret (v := .tuple #[.int .u8 0, .slice none 0 0]) (by simp [results, Tryf.results28, go_sem]) rfl ?_
  exact ⟨rfl, rfl⟩
set_option maxHeartbeats 4000000 in
theorem rng27 (p k mu he ms sc ts : Nat) (fm kd : Int) (W : World) (h : PS p k mu he ms sc ts fm kd W) : Calls Tryf.prog 27 #[.pointer (some ⟨p, 57, none⟩), .agg #[.int .i32 0]] W fun e W' => e = .returned (.agg #[.int .i32 0, .int .i32 0]) ∧ Below W.heap.size W W' := by
  obtain ⟨cs, b, r, -, -, h3, -⟩ := h
  have hb0 : Below W.heap.size W ((W.alloc (.cells #[.int .i32 0] 39)).alloc (.cells #[.int .i32 0, .int .i32 0] 41)) := ((Below.refl _ _).alloc (Nat.le_refl _) _).alloc (by simp) _
  have r1 := r.below hb0 r.lt
  have rq : RowAt ((W.alloc (.cells #[.int .i32 0] 39)).alloc (.cells #[.int .i32 0, .int .i32 0] 41)) W.heap.size #[.int .i32 0] 39 := (RowAt.newAt rfl).alloc _
  have rr : RowAt ((W.alloc (.cells #[.int .i32 0] 39)).alloc (.cells #[.int .i32 0, .int .i32 0] 41)) (W.heap.size + 1) #[.int .i32 0, .int .i32 0] 41 := RowAt.newAt (by simp)
  have HH := Lib.hid (And.intro r1 (And.intro rq (And.intro rr (And.intro hb0 h3))))
  clear r r1 rq rr hb0 h3
  go_enter Tryf.func27, Tryf.ntmps27
  go_wp2_with fail
  obtain ⟨W1, hW1⟩ : ∃ W1, W1 = (W.alloc (.cells #[.int .i32 0] 39)).alloc (.cells #[.int .i32 0, .int .i32 0] 41) := ⟨_, rfl⟩
  have HH' := HH.out
  rw [← hW1] at HH' ⊢
  clear hW1 HH
  have c1 := HH'.1.cellv (HH'.2.2.2.2.get 11 rfl)
  have c2 := HH'.2.1.cellv (j := 0) (v := .int .i32 0) rfl
  have hp := HH'.1.lt
  have hq := HH'.2.1.lt
  have HO := Lib.hid HH'
  clear HH'
  go_quiet (fail)
  have HO2 := Lib.hid (And.intro (HO.out.2.1.drewN 1) (HO.out.2.2.1.drewN 1))
  go_wp2_with (refine wpList_store_row rfl 41 _ _ rfl (W.heap.size + 1) #[.int .i32 0, .int .i32 0] (by rfl) (by rfl) 41 _ (HO.out.2.2.1.drewN _) (by kernel_rfl) (by kernel_rfl) (by kernel_rfl) ?_)
  have hr9 := row_setRow (ds := #[.int .i32 0, .int .i32 0]) (HO.out.2.2.1.drewN 1)
  exact bodyPost_ret (v := .agg #[.int .i32 0, .int .i32 0]) (results_cell Tryf.results27 (by rfl) (run_loadVar_mid _ (W.heap.size + 1) 0 41 _ _ (range_of (row_setRow (HO.out.2.2.1.drewN _))) Tryf.underlying41 rfl (by kernel_rfl))) rfl ⟨rfl, below_setRow (below_drewN HO.out.2.2.2.1 _) (by omega) _⟩

end Go.Proofs.YtidicogmfpfibaaFmt
