import Derived.Test.YtfmfniddnlpkmaaDoorKit
import Derived.Test.YtfmfniddnlpkmaaDoorViA
namespace Go.Proofs.YtfmfniddnlpkmaaDoor
open Go.ChangeShapes Go.WideShapes Go.ChangeAt Go.RowKit
set_option linter.unusedVariables false
set_option maxRecDepth 100000
set_option maxHeartbeats 2000000

theorem newT (src un mode fmt : Int) (n : Nat) (w : World) (hn : n ≤ 4096) (hI : IR w) : Calls Tryd.prog 6 #[.int .u32 src, .int .i64 n, .bool true, .int .u64 un, .int .u8 mode, .int .u8 fmt] w (New6 src un mode fmt n true w) := by
  obtain ⟨i0, hi, hz0, hz1, hz2⟩ := info_parts info59
  obtain ⟨j0, gi, gz0, gz1, gz2⟩ := info_parts info23
  have zI : 0 < w.heap.size := cell_lt hI.1
  have HI := Lib.hid hI
  clear hI
  go_enter Tryd.func6, Tryd.ntmps6
  go_wp2_with (first
    | (refine wpList_build rfl 184 _ rfl #[] (by simp [Act.eval]) _ (build184z _) ?_)
    | (at_make; refine wpList_make_full _ rfl _ _ 44 rfl w.heap.size 59 i0 _ 10 Tryd.underlying44 hi hz0 hz1 .i64 .i64 _ _ n rfl rfl rfl rfl (by rw [hz2]; omega) (by unfold maxLen; omega) (by go_size) ?_))
  intro w1 hown hgrow
  have hb1 : Below (w.heap.size + 1) (w.alloc (.cells (PZ184.setIfInBounds 66 (.int .u32 src)) 184)) w1 := Below.grown (Below.refl _ _) hgrow (by simp) (fun k hk => by cases hk)
  have B1 := Lib.hid hb1
  have R1 := Lib.hid ((RowAt.new w (PZ184.setIfInBounds 66 (.int .u32 src)) 184).below hb1 (by omega))
  have HO := Lib.hid hown
  have hlt1 : w.heap.size + 1 < w1.heap.size := by
    obtain ⟨⟨es, e1⟩, _⟩ := own_row hown rfl
    have := e1.lt
    simpa using this
  have HG0 := Lib.hid (HI.out.below (Below.trans ((Below.refl _ _).alloc (Nat.le_refl _) _) (hb1.mono (by omega))))
  clear hown hgrow hi hz0 hz1 hz2 i0 hb1
  have c106 := R1.out.cellv (j := 106) (v := .slice none 0 0) (set_ne (by decide) PZ184_106)
  have f106 := R1.out.frozen 106
  have c32 := R1.out.cellv (j := 32) (v := .bool false) (set_ne (by decide) PZ184_32)
  have f32 := R1.out.frozen 32
  go_wp2_with (at_make; refine wpList_make_full _ rfl _ _ 31 rfl w.heap.size 23 j0 _ 1 Tryd.underlying31 gi gz0 gz1 .i64 .i64 _ _ n rfl rfl rfl rfl (by rw [gz2]; omega) (by unfold maxLen; omega) (by simp; omega) ?_)
  intro w2 hown hgrow
  have hb2 : Below w1.heap.size ((w1.setCell ⟨w.heap.size, 106, none⟩ (.slice (some ⟨w.heap.size + 1, 0, none⟩) n n)).setCell ⟨w.heap.size, 32, none⟩ (.bool true)) w2 := Below.grown (Below.refl _ _) hgrow (by simp) (fun k hk => by cases hk)
  have B2 := Lib.hid hb2
  have hz1' : w.heap.size < w1.heap.size := by omega
  have R1b := Lib.hid (((R1.out.set 106 (.slice (some ⟨w.heap.size + 1, 0, none⟩) n n)).set 32 (.bool true)).below hb2 hz1')
  have HU := Lib.hid hown
  have hlt2 : w1.heap.size < w2.heap.size := by
    obtain ⟨⟨es, e1⟩, _⟩ := own_row hown rfl
    have := e1.lt
    simpa using this
  clear c106 c32 f106 f32
  have c108 := R1b.out.cellv (j := 108) (v := .slice none 0 0) (set_ne (by decide) (set_ne (by decide) (set_ne (by decide) PZ184_108)))
  have f108 := R1b.out.frozen 108
  have c23 := R1b.out.cellv (j := 23) (v := .int .u64 0) (set_ne (by decide) (set_ne (by decide) (set_ne (by decide) PZ184_23)))
  have f23 := R1b.out.frozen 23
  have c34 := R1b.out.cellv (j := 34) (v := .int .u8 0) (set_ne (by decide) (set_ne (by decide) (set_ne (by decide) PZ184_34)))
  have f34 := R1b.out.frozen 34
  have c36 := R1b.out.cellv (j := 36) (v := .int .u8 0) (set_ne (by decide) (set_ne (by decide) (set_ne (by decide) PZ184_36)))
  have f36 := R1b.out.frozen 36
  obtain ⟨w3, hw3⟩ : ∃ W, ((((w2.setCell ⟨w.heap.size, 108, none⟩ (.slice (some ⟨w1.heap.size, 0, none⟩) n n)).setCell ⟨w.heap.size, 23, none⟩ (.int .u64 un)).setCell ⟨w.heap.size, 34, none⟩ (.int .u8 mode)).setCell ⟨w.heap.size, 36, none⟩ (.int .u8 fmt)) = W := ⟨_, rfl⟩
  have R2 := Lib.hid (hw3 ▸ (((R1b.out.set 108 (.slice (some ⟨w1.heap.size, 0, none⟩) n n)).set 23 (.int .u64 un)).set 34 (.int .u8 mode)).set 36 (.int .u8 fmt))
  have hz3' : w2.heap.size = w3.heap.size := by rw [← hw3]; simp
  have c17 := R2.out.cellv (j := 17) (v := .pointer none) (set_ne (by decide) (set_ne (by decide) (set_ne (by decide) (set_ne (by decide) (set_ne (by decide) (set_ne (by decide) (set_ne (by decide) PZ184_17)))))))
  have f17 := R2.out.frozen 17
  have c187 := R2.out.cellv (j := 187) (v := .pointer none) (set_ne (by decide) (set_ne (by decide) (set_ne (by decide) (set_ne (by decide) (set_ne (by decide) (set_ne (by decide) (set_ne (by decide) PZ184_187)))))))
  have f187 := R2.out.frozen 187
  have c298 := R2.out.cellv (j := 298) (v := .int .u32 0) (set_ne (by decide) (set_ne (by decide) (set_ne (by decide) (set_ne (by decide) (set_ne (by decide) (set_ne (by decide) (set_ne (by decide) PZ184_298)))))))
  have f298 := R2.out.frozen 298
  have c299 := R2.out.cellv (j := 299) (v := .int .u32 0) (set_ne (by decide) (set_ne (by decide) (set_ne (by decide) (set_ne (by decide) (set_ne (by decide) (set_ne (by decide) (set_ne (by decide) PZ184_299)))))))
  have f299 := R2.out.frozen 299
  have c292 := R2.out.cellv (j := 292) (v := .int .u32 0) (set_ne (by decide) (set_ne (by decide) (set_ne (by decide) (set_ne (by decide) (set_ne (by decide) (set_ne (by decide) (set_ne (by decide) PZ184_292)))))))
  have f292 := R2.out.frozen 292
  have c293 := R2.out.cellv (j := 293) (v := .int .u32 0) (set_ne (by decide) (set_ne (by decide) (set_ne (by decide) (set_ne (by decide) (set_ne (by decide) (set_ne (by decide) (set_ne (by decide) PZ184_293)))))))
  have f293 := R2.out.frozen 293
  have hne0 : (0 : Nat) ≠ w.heap.size := by omega
  have g0a : w2.cell? ⟨0, 0, none⟩ = some (.int .u32 4294967295) := by
    refine (hb2.cell (show 0 < w1.heap.size by omega)).trans ?_
    simp [World.cell?_setCell_other, hne0, HG0.out.1]
  have g1a : w2.cell? ⟨0, 1, none⟩ = some (.int .u32 4294967295) := by
    refine (hb2.cell (show 0 < w1.heap.size by omega)).trans ?_
    simp [World.cell?_setCell_other, hne0, HG0.out.2]
  have g0' : w3.cell? ⟨0, 0, none⟩ = some (.int .u32 4294967295) := by
    rw [← hw3]
    simp [World.cell?_setCell_other, hne0, g0a]
  have g1' : w3.cell? ⟨0, 1, none⟩ = some (.int .u32 4294967295) := by
    rw [← hw3]
    simp [World.cell?_setCell_other, hne0, g1a]
  have z2a : w.heap.size < w3.heap.size := by omega
  have z2b : w.heap.size < w3.heap.size + 1 := by omega
  have z2c : 0 < w3.heap.size := by omega
  have z2d : 0 < w3.heap.size + 1 := by omega
  have hS : w3.heap[w.heap.size + 1]? = w1.heap[w.heap.size + 1]? := by
    have hne : w.heap.size + 1 ≠ w.heap.size := by omega
    rw [← hw3]
    simp only [heap_set hne]
    refine (hb2.block _ hlt1).trans ?_
    simp only [heap_set hne]
  have hU : w3.heap[w1.heap.size]? = w2.heap[w1.heap.size]? := by
    have hne : w1.heap.size ≠ w.heap.size := by omega
    rw [← hw3]
    simp only [heap_set hne]
  have HS := Lib.hid hS
  have HUU := Lib.hid hU
  have HZ2 := Lib.hid (show w1.heap.size < w3.heap.size by omega)
  have HZ3 := Lib.hid hlt1
  have Bz : Hid (Below w.heap.size w w3) := by
    show Below w.heap.size w w3
    rw [← hw3]
    exact (((((((((Below.refl _ _).alloc (Nat.le_refl _) _).trans (B1.out.mono (by omega))).setCell (Nat.le_refl _) _).setCell (Nat.le_refl _) _).trans (hb2.mono (by omega))).setCell (Nat.le_refl _) _).setCell (Nat.le_refl _) _).setCell (Nat.le_refl _) _).setCell (Nat.le_refl _) _
  have HW3 := Lib.hid hw3
  clear hz3' hz1' hlt1 hlt2 hown hgrow gi gz0 gz1 gz2 j0 hb2 g0a g1a hw3 hS hU hne0
  go_wp2_with (first | (refine wpList_build rfl 188 _ rfl #[] (by simp [Act.eval]) _ (build188z _) ?_; rw [HW3.out]; clear c108 c23 c34 c36 f108 f23 f34 f36) | (refine wpList_build rfl 198 _ rfl #[] (by simp [Act.eval]) _ (build198z _) ?_))
  go_ret
  have hO2 : w3.ownsRow w.heap.size 59 10 (.slice (some ⟨w.heap.size + 1, 0, none⟩) n n) n (madeCells (Value.agg #[.pointer none, .string ⟨#[]⟩, .int .u32 0, .int .u32 0, .int .u32 0, .int .u32 0, .int .u32 0, .int .u16 0, .int .u8 0, .int .u8 0]).cells (n * 10)).toList := by
    have h0 := HO.out
    refine own_kept h0 fun g hg => ?_
    have : w.heap.size + 1 = g := by simpa [Value.ownBlock] using hg
    subst this
    exact HS.out
  have hU2 := own_kept (w' := w3) HU.out fun g hg => by
    have : w1.heap.size = g := by simpa [Value.ownBlock] using hg
    subst this
    exact HUU.out
  have Bw := Bz.out
  have hz2 := HZ2.out
  have hz3 := HZ3.out
  refine ⟨w.heap.size, rfl, ⟨_, w3.heap.size + 1, _, w.heap.size + 1, _, .slice (some ⟨w1.heap.size, 0, none⟩) n n, ((((((((R2.out.set 17 _).set 187 _).set 298 _).set 299 _).set 292 _).set 293 _).alloc _).alloc _), ?_, RowAt.newAt (by simp), rfl, own_kept hO2 fun g hg => ?_, (fun _ => ⟨_, own_kept (by simpa using hU2) fun g hg => ?_⟩), Nat.le_refl _, by omega⟩, by go_grown⟩
  · constructor
    all_goals (repeat (first | (with_reducible exact set_eq (by simp)) | (with_reducible refine set_ne (by decide) ?_)))
    · exact PZ184_105
    · exact PZ184_350
  · have : w.heap.size + 1 = g := by simpa [Value.ownBlock] using hg
    subst this
    have hne : w.heap.size + 1 ≠ w.heap.size := by omega
    rw [Below.heap_alloc _ _ _ (by simp; omega), Below.heap_alloc _ _ _ (by simp; omega)]
    simp only [heap_set hne]
  · have : w1.heap.size = g := by simpa [Value.ownBlock] using hg
    subst this
    have hne : w1.heap.size ≠ w.heap.size := by omega
    rw [Below.heap_alloc _ _ _ (by simp; omega), Below.heap_alloc _ _ _ (by simp; omega)]
    simp only [heap_set hne]
theorem new6 (src un mode fmt : Int) (n : Nat) (ts : Bool) (w : World) (hn : n ≤ 4096) (hI : IR w) : Calls Tryd.prog 6 #[.int .u32 src, .int .i64 n, .bool ts, .int .u64 un, .int .u8 mode, .int .u8 fmt] w (New6 src un mode fmt n ts w) := by
  cases ts
  · exact newF src un mode fmt n w hn hI
  · exact newT src un mode fmt n w hn hI

end Go.Proofs.YtfmfniddnlpkmaaDoor
