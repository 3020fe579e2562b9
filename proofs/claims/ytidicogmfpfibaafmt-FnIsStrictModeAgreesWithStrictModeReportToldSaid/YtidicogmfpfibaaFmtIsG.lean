import Derived.Test.YtidicogmfpfibaaFmtKit
import Derived.Test.YtidicogmfpfibaaFmtIsF
namespace Go.Proofs.YtidicogmfpfibaaFmt
open Go.ChangeShapes Go.WideShapes Go.ChangeAt Go.RowKit
set_option linter.unusedVariables false
set_option maxRecDepth 100000
set_option maxHeartbeats 2000000

open Go.MuLone
theorem log_size (k mu he ms : Nat) : (logV k mu he ms).size = 6 := rfl
theorem log_one (k mu he ms : Nat) : (logV k mu he ms).all (·.oneCell') = true := by simp [logV, Value.oneCell']
theorem log_info (k mu he ms : Nat) : (Tryf.prog.info? 49).map (·.size) = some (logV k mu he ms).size := by rw [log_size]; kernel_rfl
theorem trk_size : trkV.size = 10 := rfl
theorem trk_one : trkV.all (·.oneCell') = true := by kernel_rfl
theorem trk_info : (Tryf.prog.info? 95).map (·.size) = some trkV.size := by kernel_rfl
theorem there_log {w : World} {p k mu he ms : Nat} (r : RowAt w p PZ166 166) : w.there p 51 (logV k mu he ms).size := there_row r (by rw [PZ166_size, log_size]; omega)
theorem there_trk {w : World} {p : Nat} {L : List Value} (r : RowAt w p (putL PZ166 51 L) 166) : w.there p 67 trkV.size := there_row r (by rw [putL_size, PZ166_size, trk_size]; omega)
theorem par2 (k mu he ms : Nat) : (putL PZ166 51 (logV k mu he ms).toList)[57]? = some (.string ⟨#[]⟩) ∧ (putL PZ166 51 (logV k mu he ms).toList)[57 + 1]? = some (.string ⟨#[]⟩) ∧ (putL PZ166 51 (logV k mu he ms).toList)[57 + 3]? = some (.string ⟨#[]⟩) := ⟨by kernel_rfl, by kernel_rfl, by kernel_rfl⟩
theorem par4 (k mu he ms : Nat) : (putL (putL PZ166 51 (logV k mu he ms).toList) 67 trkV.toList)[104]? = some (.pointer none) := by kernel_rfl
theorem par5 (k mu he ms sc : Nat) : ((putL (putL PZ166 51 (logV k mu he ms).toList) 67 trkV.toList).setIfInBounds 104 (.pointer (some ⟨sc, 0, none⟩)))[13]? = some (.pointer none) := by kernel_rfl
theorem par6 (k mu he ms sc ts : Nat) : (((putL (putL PZ166 51 (logV k mu he ms).toList) 67 trkV.toList).setIfInBounds 104 (.pointer (some ⟨sc, 0, none⟩))).setIfInBounds 13 (.pointer (some ⟨ts, 0, none⟩)))[36]? = some (.int .u8 0) := by kernel_rfl
def NewPar (B : Nat) (fm kd : Int) (W : World) (e : Ending) (W' : World) : Prop := ∃ p k mu he ms sc ts, e = .returned (.pointer (some ⟨p, 0, none⟩)) ∧ LG B k mu he ms 0 (.slice none 0 0) 0 [] W' ∧ PS p k mu he ms sc ts fm kd W' ∧ B ≤ p ∧ Below W.heap.size W W'
set_option maxHeartbeats 4000000 in
theorem newpar9 (W : World) (B : Nat) (hB : B ≤ W.heap.size) (fm kd : Int) : Calls Tryf.prog 9 #[.int .u8 kd, .int .u8 fm] W (NewPar B fm kd W) := by
  go_enter Tryf.func9, Tryf.ntmps9
  go_wp2_with (refine wpList_build rfl 166 _ rfl #[] (by simp [Act.eval, Act.put]) _ (build166k _) ?_)
  have hb0 : Below W.heap.size W (W.alloc (.cells PZ166 166)) := (Below.refl _ _).alloc (Nat.le_refl _) _
  have r0 : RowAt (W.alloc (.cells PZ166 166)) W.heap.size PZ166 166 := RowAt.new W _ _
  refine (newlog7 _ B (Nat.le_trans hB hb0.size)).mono ?_
  rintro e1 w1 ⟨k, mu, he, ms, rfl, H, hb⟩
  have r1 := r0.below hb r0.lt
  have bb1 := hb0.trans (hb.mono hb0.size)
  have H1 := Lib.hid (And.intro r1 (And.intro H bb1))
  clear r0 r1 H hb hb0 bb1
  obtain ⟨p, hp⟩ : ∃ p, p = W.heap.size := ⟨_, rfl⟩
  have H1' := H1.out
  rw [← hp] at H1' ⊢
  have HP := Lib.hid (show B ≤ p ∧ p = W.heap.size from ⟨hp ▸ hB, hp⟩)
  clear hp H1
  have H1 := Lib.hid H1'
  clear H1'
  go_upto_region 3 with (refine wpList_store_mid rfl 49 _ _ rfl p 51 (logV k mu he ms) (by rfl) (by rfl) (there_log H1.out.1) (log_info k mu he ms) (log_one k mu he ms) ?_)
  have r2 := H1.out.1.setCells (logV k mu he ms).toList 51
  have f2 : Fp p w1 (w1.setCells p 51 (logV k mu he ms).toList) := fun g cs t hg r => RowAt.setCells_other hg _ _ r
  have b2 : Below p W (w1.setCells p 51 (logV k mu he ms).toList) := below_setCells (Nat.le_refl _) _ _ (HP.out.2 ▸ H1.out.2.2)
  have z2 : w1.heap.size ≤ (w1.setCells p 51 (logV k mu he ms).toList).heap.size := by rw [setCells_size]; exact Nat.le_refl _
  have l2 := H1.out.2.1.fp H1.out.1 f2 z2
  generalize w1.setCells p 51 (logV k mu he ms).toList = w2 at r2 f2 b2 z2 l2 ⊢
  have H2 := Lib.hid (And.intro r2 (And.intro l2 b2))
  clear r2 f2 b2 z2 l2 H1
  go_wp2_with fail
  refine (mk13 p 57 166 _ w2 H2.out.1 (par2 k mu he ms).1 (par2 k mu he ms).2.1 (par2 k mu he ms).2.2).mono ?_
  rintro e3 w3 ⟨rfl, hb3⟩
  have r3 := H2.out.1.below hb3 H2.out.1.lt
  have l3 := H2.out.2.1.later hb3
  have b3 := H2.out.2.2.trans (hb3.mono (Nat.le_of_lt H2.out.1.lt))
  have H3 := Lib.hid (And.intro r3 (And.intro l3 b3))
  clear r3 l3 b3 hb3 H2
  go_upto_region 4 with (refine wpList_store_mid rfl 95 _ _ rfl p 67 trkV (by rfl) (by rfl) (there_trk H3.out.1) trk_info trk_one ?_)
  have r4 := H3.out.1.setCells trkV.toList 67
  have f4 : Fp p w3 (w3.setCells p 67 trkV.toList) := fun g cs t hg r => RowAt.setCells_other hg _ _ r
  have b4 : Below p W (w3.setCells p 67 trkV.toList) := below_setCells (Nat.le_refl _) _ _ H3.out.2.2
  have l4 := H3.out.2.1.fp H3.out.1 f4 (by rw [setCells_size]; exact Nat.le_refl _)
  generalize w3.setCells p 67 trkV.toList = w4 at r4 f4 b4 l4 ⊢
  have c104 := r4.cellv (par4 k mu he ms)
  have z104 := r4.frozen 104
  have p4 := r4.lt
  have H4 := Lib.hid (And.intro r4 (And.intro l4 b4))
  clear r4 f4 b4 l4 H3
  go_upto_region 5 with (refine wpList_build rfl 179 _ rfl #[(12, .int .u8 kd)] (by simp [Act.eval, Act.put]) _ (build179k kd _) ?_)
  have a5 := H4.out.1.set 104 (.pointer (some ⟨w4.heap.size, 0, none⟩))
  have r5 := a5.alloc (.cells (A179 kd w4) 179)
  have s5 : RowAt ((w4.setCell ⟨p, 104, none⟩ (.pointer (some ⟨w4.heap.size, 0, none⟩))).alloc (.cells (A179 kd w4) 179)) w4.heap.size (A179 kd w4) 179 := RowAt.newAt (by simp)
  have b5 : Below p W ((w4.setCell ⟨p, 104, none⟩ (.pointer (some ⟨w4.heap.size, 0, none⟩))).alloc (.cells (A179 kd w4) 179)) := (H4.out.2.2.setCell (Nat.le_refl _) _).alloc (by simp; exact Nat.le_of_lt p4) _
  have l5 := (H4.out.2.1.fp H4.out.1 (Fp.set p _ 104 (.pointer (some ⟨w4.heap.size, 0, none⟩))) (by simp)).later ((Below.refl _ _).alloc (Nat.le_refl _) (.cells (A179 kd w4) 179))
  generalize (w4.setCell ⟨p, 104, none⟩ (.pointer (some ⟨w4.heap.size, 0, none⟩))).alloc (.cells (A179 kd w4) 179) = w5 at r5 s5 b5 l5 ⊢
  have S5 := Lib.hid (show ∃ ss, RowAt w5 w4.heap.size ss 179 ∧ At ss [(6, .int .i32 0), (14, .int .u8 kd)] from ⟨_, s5, at179 kd w4⟩)
  clear a5 s5 c104 z104
  generalize w4.heap.size = sc at r5 S5 ⊢
  have c13 := r5.cellv (par5 k mu he ms sc)
  have z13 := r5.frozen 13
  have p5 := r5.lt
  have H5 := Lib.hid (And.intro r5 (And.intro l5 b5))
  clear r5 b5 l5 H4 p4
  go_upto_region 6 with (refine wpList_build rfl 181 _ rfl #[] (by simp [Act.eval, Act.put]) _ (build181k _) ?_)
  have a6 := H5.out.1.set 13 (.pointer (some ⟨w5.heap.size, 0, none⟩))
  have r6 := a6.alloc (.cells PZ181 181)
  have t6 : RowAt ((w5.setCell ⟨p, 13, none⟩ (.pointer (some ⟨w5.heap.size, 0, none⟩))).alloc (.cells PZ181 181)) w5.heap.size PZ181 181 := RowAt.newAt (by simp)
  have b6 : Below p W ((w5.setCell ⟨p, 13, none⟩ (.pointer (some ⟨w5.heap.size, 0, none⟩))).alloc (.cells PZ181 181)) := (H5.out.2.2.setCell (Nat.le_refl _) _).alloc (by simp; exact Nat.le_of_lt p5) _
  have l6 := (H5.out.2.1.fp H5.out.1 (Fp.set p _ 13 (.pointer (some ⟨w5.heap.size, 0, none⟩))) (by simp)).later ((Below.refl _ _).alloc (Nat.le_refl _) (.cells PZ181 181))
  obtain ⟨ss, q5, qA⟩ := S5.out
  have s6 := (q5.set_other (q5.diff H5.out.1 (by decide)) 13 (.pointer (some ⟨w5.heap.size, 0, none⟩))).alloc (.cells PZ181 181)
  generalize (w5.setCell ⟨p, 13, none⟩ (.pointer (some ⟨w5.heap.size, 0, none⟩))).alloc (.cells PZ181 181) = w6 at r6 t6 b6 l6 s6 ⊢
  clear a6 q5 c13 z13
  generalize w5.heap.size = ts at r6 t6 ⊢
  have c36 := r6.cellv (par6 k mu he ms sc ts)
  have z36 := r6.frozen 36
  have p6 := r6.lt
  have H6 := Lib.hid (And.intro r6 (And.intro l6 (And.intro b6 (And.intro s6 (And.intro t6 qA)))))
  clear r6 b6 l6 H5 p5 S5 s6 t6 qA
  go_wp2_with fail
  go_ret
  obtain ⟨r6, l6, b6, s6, t6, qA⟩ := H6.out
  have r7 := r6.set 36 (.int .u8 fm)
  refine ⟨p, k, mu, he, ms, sc, ts, rfl, l6.fp r6 (Fp.set p _ 36 _) (by simp), ⟨_, false, r7, atTrk k mu he ms sc ts fm, at75 k mu he ms sc ts fm, atPar k mu he ms sc ts fm, ⟨_, Fp.set p _ 36 _ _ _ _ (s6.diff r6 (by decide)) s6, qA⟩, _, Fp.set p _ 36 _ _ _ _ (t6.diff r6 (by decide)) t6, at181⟩, HP.out.1, ?_⟩
  rw [← HP.out.2]
  exact b6.setCell (Nat.le_refl _) _

end Go.Proofs.YtidicogmfpfibaaFmt
