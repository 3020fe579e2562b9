import Derived.Test.YtdikaidllmhbhabKit
import Derived.Test.YtdikaidllmhbhabSnB
import Derived.Test.YtdikaidllmhbhabBig
import Derived.Deep.RegionLaw
import Derived.Deep.RegionLawGrows
import Derived.Deep.AppendLies
namespace Go.Proofs.Ytdikaidllmhbhab.fnStoreNameScriptRoundTrip
open Go.ChangeShapes Go.WideShapes Go.ChangeAt Go.RowKit
set_option linter.unusedVariables false
set_option maxRecDepth 100000
set_option maxHeartbeats 2000000

noncomputable def parC (ct : ByteArray) (l0 l1 l2 l3 t0 t1 t2 t3 t4 t5 t6 t7 t8 t9 : Value) : Array Value := ((((((((((((((((((((((((((PZ163.setIfInBounds 51 (l0)).setIfInBounds 52 (l1)).setIfInBounds 53 (l2)).setIfInBounds 54 (l3)).setIfInBounds 55 (.int .i8 3)).setIfInBounds 56 (.map none)).setIfInBounds 57 (.string ⟨#[]⟩)).setIfInBounds 58 (.string ⟨#[]⟩)).setIfInBounds 59 (.string ⟨#[]⟩)).setIfInBounds 60 (.string ct)).setIfInBounds 61 (.string ⟨#[]⟩)).setIfInBounds 62 (.string ⟨#[]⟩)).setIfInBounds 63 (.string ⟨#[]⟩)).setIfInBounds 64 (.string ⟨#[]⟩)).setIfInBounds 65 (.int .u8 0)).setIfInBounds 66 (.int .u32 0)).setIfInBounds 67 (t0)).setIfInBounds 68 (t1)).setIfInBounds 69 (t2)).setIfInBounds 70 (t3)).setIfInBounds 71 (t4)).setIfInBounds 72 (t5)).setIfInBounds 73 (t6)).setIfInBounds 74 (t7)).setIfInBounds 75 (t8)).setIfInBounds 76 (t9))
theorem build163p (ct : ByteArray) (l0 l1 l2 l3 t0 t1 t2 t3 t4 t5 t6 t7 t8 t9 : Value) (W : World) : (Instr.build 163 #[(1, .agg #[l0, l1, l2, l3, .int .i8 3, .map none]), (2, .agg #[.string ⟨#[]⟩, .string ⟨#[]⟩, .string ⟨#[]⟩, .string ct, .string ⟨#[]⟩, .string ⟨#[]⟩, .string ⟨#[]⟩, .string ⟨#[]⟩, .int .u8 0, .int .u32 0]), (3, .agg #[t0, t1, t2, t3, t4, t5, t6, t7, t8, t9])]).run Try.prog W = .ok (.agg (parC ct l0 l1 l2 l3 t0 t1 t2 t3 t4 t5 t6 t7 t8 t9)) W := by kernel_rfl
theorem set_ne {cs : Array Value} {i j : Nat} {a v : Value} (hn : i ≠ j) (h : cs[j]? = some v) : (cs.setIfInBounds i a)[j]? = some v := by
  rw [Array.getElem?_setIfInBounds, if_neg hn]
  exact h
theorem set_eq {cs : Array Value} {i : Nat} {a : Value} (h : i < cs.size) : (cs.setIfInBounds i a)[i]? = some a := by
  rw [Array.getElem?_setIfInBounds, if_pos rfl, if_pos h]
theorem parC_60 (ct : ByteArray) (l0 l1 l2 l3 t0 t1 t2 t3 t4 t5 t6 t7 t8 t9 : Value) : (parC ct l0 l1 l2 l3 t0 t1 t2 t3 t4 t5 t6 t7 t8 t9)[60]? = some (.string ct) := by
  unfold parC
  repeat (first | (with_reducible exact set_eq (by simp)) | (with_reducible refine set_ne (by decide) ?_))
theorem parC_103 (ct : ByteArray) (l0 l1 l2 l3 t0 t1 t2 t3 t4 t5 t6 t7 t8 t9 : Value) : (parC ct l0 l1 l2 l3 t0 t1 t2 t3 t4 t5 t6 t7 t8 t9)[103]? = some (.slice none 0 0) := by
  unfold parC
  repeat (with_reducible refine set_ne (by decide) ?_)
  exact PZ163_103

theorem oper_build {o : Oper} {a : Act} {w : World} {K : Act → World → Prop} {Q : Exit → Act → World → Prop} (hgd : o.guard = none) (T : TypeId) (parts : Array (Nat × Operand)) (ho : o.op = .build T parts)
    (vs : Array (Nat × Value)) (hvs : (parts.map fun (i, x) => (i, a.eval x)) = vs) (v : Value) (hrun : (Instr.build T vs).run Try.prog w = .ok v w) (h : K (a.put o.dst v) w) : o.wp Try.prog a w K Q := by
  unfold Oper.wp execOp
  rw [ho]
  simp only [hvs, Sem.run_bind, hrun, Result.andThen_ok, Sem.run_pure]
  exact h

/-- A new parser. -/
def New8 (ct : ByteArray) (w : World) (e : Ending) (w' : World) : Prop := ∃ p cs, e = .returned (.pointer (some ⟨p, 0, none⟩)) ∧ RowAt w' p cs 163 ∧ cs[60]? = some (.string ct) ∧ cs[103]? = some (.slice none 0 0) ∧ w.heap.size ≤ p ∧ Below w.heap.size w w'
set_option maxHeartbeats 8000000 in
theorem new8 (ct : ByteArray) (w : World) : Calls Try.prog 8 #[.string ct] w (New8 ct w) := by
  go_enter Try.func8, Try.ntmps8
  go_wp2_with fail
  have h0 : RowAt (w.alloc (.cells (srcRow ct) 47)) w.heap.size (srcRow ct) 47 := RowAt.new _ _ _
  have hbw : Below w.heap.size w (w.alloc (.cells (srcRow ct) 47)) := (Below.refl _ _).alloc (Nat.le_refl _) _
  unfold srcRow at h0 hbw
  generalize hW : w.alloc (.cells #[.string ⟨#[]⟩, .string ⟨#[]⟩, .string ⟨#[]⟩, .string ct, .string ⟨#[]⟩, .string ⟨#[]⟩, .string ⟨#[]⟩, .string ⟨#[]⟩, .int .u8 0, .int .u32 0] 47) = W at h0 hbw ⊢
  clear hW
  have q0 := h0.cellv (j := 0) (v := .string ⟨#[]⟩) rfl
  have q1 := h0.cellv (j := 1) (v := .string ⟨#[]⟩) rfl
  have q2 := h0.cellv (j := 2) (v := .string ⟨#[]⟩) rfl
  have q3 := h0.cellv (j := 3) (v := .string ct) rfl
  have q4 := h0.cellv (j := 4) (v := .string ⟨#[]⟩) rfl
  have q5 := h0.cellv (j := 5) (v := .string ⟨#[]⟩) rfl
  have q6 := h0.cellv (j := 6) (v := .string ⟨#[]⟩) rfl
  have q7 := h0.cellv (j := 7) (v := .string ⟨#[]⟩) rfl
  have q8 := h0.cellv (j := 8) (v := .int .u8 0) rfl
  have q9 := h0.cellv (j := 9) (v := .int .u32 0) rfl
  have H0 := Lib.hid h0
  have HW := Lib.hid hbw
  clear h0 hbw
  refine wp_region_held_drew (S := fun w' => w'.cell? ⟨w.heap.size, 0, none⟩ = some (.string ⟨#[]⟩) ∧ w'.cell? ⟨w.heap.size, 1, none⟩ = some (.string ⟨#[]⟩) ∧ w'.cell? ⟨w.heap.size, 2, none⟩ = some (.string ⟨#[]⟩) ∧ w'.cell? ⟨w.heap.size, 3, none⟩ = some (.string ct) ∧ w'.cell? ⟨w.heap.size, 4, none⟩ = some (.string ⟨#[]⟩) ∧ w'.cell? ⟨w.heap.size, 5, none⟩ = some (.string ⟨#[]⟩) ∧ w'.cell? ⟨w.heap.size, 6, none⟩ = some (.string ⟨#[]⟩) ∧ w'.cell? ⟨w.heap.size, 7, none⟩ = some (.string ⟨#[]⟩) ∧ w'.cell? ⟨w.heap.size, 8, none⟩ = some (.int .u8 0) ∧ w'.cell? ⟨w.heap.size, 9, none⟩ = some (.int .u32 0)) (by kernel_rfl) ⟨q0, q1, q2, q3, q4, q5, q6, q7, q8, q9⟩ (fun hHeld => ?_)
  refine wpAnyH_take (i := 1) (v := ?_) rfl (by kernel_rfl) (by kernel_rfl) (by kernel_rfl) (fun _ _ _ h => h) (Or.inl ⟨by rfl, ?_⟩) (by assumption) ?_
  rotate_left
  · (intro w' hSw; (try dsimp only at hSw); go_simp; with_reducible rfl)
  try simp only [List.getElem_toArray, List.getElem_cons_zero, List.getElem_cons_succ, Act.put, List.setIfInBounds_toArray, List.set_cons_zero, List.set_cons_succ]
  refine wpAnyH_ready (rs := [0]) (by kernel_rfl) (by simp) ?_
  refine AllReadyH.cons rfl (fun K hK => ?_) AllReadyH.nil
  simp only [List.getElem_toArray, List.getElem_cons_zero, List.getElem_cons_succ]
  go_simp
  refine (log12 _).mono ?_
  rintro e wx ⟨⟨l0, l1, l2, l3, rfl⟩, hbx⟩
  have hx : RowAt wx w.heap.size (srcRow ct) 47 := RowAt.below (w := W.drew) H0.out hbx H0.out.lt
  have x0 := hx.cellv (j := 0) (v := .string ⟨#[]⟩) rfl
  have x1 := hx.cellv (j := 1) (v := .string ⟨#[]⟩) rfl
  have x2 := hx.cellv (j := 2) (v := .string ⟨#[]⟩) rfl
  have x3 := hx.cellv (j := 3) (v := .string ct) rfl
  have x4 := hx.cellv (j := 4) (v := .string ⟨#[]⟩) rfl
  have x5 := hx.cellv (j := 5) (v := .string ⟨#[]⟩) rfl
  have x6 := hx.cellv (j := 6) (v := .string ⟨#[]⟩) rfl
  have x7 := hx.cellv (j := 7) (v := .string ⟨#[]⟩) rfl
  have x8 := hx.cellv (j := 8) (v := .int .u8 0) rfl
  have x9 := hx.cellv (j := 9) (v := .int .u32 0) rfl
  have HBX := Lib.hid hbx
  have HX := Lib.hid hx
  clear hbx hx
  refine hK.out _ _ ⟨x0, x1, x2, x3, x4, x5, x6, x7, x8, x9⟩ (fun hHeld => ?_)
  clear hK K
  try simp only [List.getElem_toArray, List.getElem_cons_zero, List.getElem_cons_succ, Act.put, List.setIfInBounds_toArray, List.set_cons_zero, List.set_cons_succ]
  refine wpAnyH_ready (rs := [2]) (by kernel_rfl) (by simp) ?_
  refine AllReadyH.cons rfl (fun K hK => ?_) AllReadyH.nil
  simp only [List.getElem_toArray, List.getElem_cons_zero, List.getElem_cons_succ]
  go_simp
  refine (track13 w.heap.size ct _ HX.out).mono ?_
  rintro e wy ⟨⟨t0, t1, t2, t3, t4, t5, t6, t7, t8, t9, rfl⟩, hby⟩
  have hy : RowAt wy w.heap.size (srcRow ct) 47 := RowAt.below HX.out hby HX.out.lt
  have y0 := hy.cellv (j := 0) (v := .string ⟨#[]⟩) rfl
  have y1 := hy.cellv (j := 1) (v := .string ⟨#[]⟩) rfl
  have y2 := hy.cellv (j := 2) (v := .string ⟨#[]⟩) rfl
  have y3 := hy.cellv (j := 3) (v := .string ct) rfl
  have y4 := hy.cellv (j := 4) (v := .string ⟨#[]⟩) rfl
  have y5 := hy.cellv (j := 5) (v := .string ⟨#[]⟩) rfl
  have y6 := hy.cellv (j := 6) (v := .string ⟨#[]⟩) rfl
  have y7 := hy.cellv (j := 7) (v := .string ⟨#[]⟩) rfl
  have y8 := hy.cellv (j := 8) (v := .int .u8 0) rfl
  have y9 := hy.cellv (j := 9) (v := .int .u32 0) rfl
  have HBY := Lib.hid hby
  have HY := Lib.hid hy
  clear hby hy
  refine hK.out _ _ ⟨y0, y1, y2, y3, y4, y5, y6, y7, y8, y9⟩ (fun hHeld => ?_)
  clear hK K
  try simp only [List.getElem_toArray, List.getElem_cons_zero, List.getElem_cons_succ, Act.put, List.setIfInBounds_toArray, List.set_cons_zero, List.set_cons_succ]
  refine wpAnyH_ready (rs := [3]) (by kernel_rfl) (by simp) ?_
  refine AllReadyH.cons rfl (fun K hK => ?_) AllReadyH.nil
  simp only [List.getElem_toArray, List.getElem_cons_zero, List.getElem_cons_succ]
  refine oper_build rfl 163 _ rfl _ (by simp [Act.eval]) _ (build163p ct l0 l1 l2 l3 t0 t1 t2 t3 t4 t5 t6 t7 t8 t9 _) ?_
  refine hK.out _ _ ⟨y0, y1, y2, y3, y4, y5, y6, y7, y8, y9⟩ (fun hHeld => ?_)
  clear hK K
  try simp only [List.getElem_toArray, List.getElem_cons_zero, List.getElem_cons_succ, Act.put, List.setIfInBounds_toArray, List.set_cons_zero, List.set_cons_succ]
  refine wpAnyH_ready (rs := [4]) (by kernel_rfl) (by simp) ?_
  refine AllReadyH.cons rfl (fun K hK => ?_) AllReadyH.nil
  simp only [List.getElem_toArray, List.getElem_cons_zero, List.getElem_cons_succ]
  go_simp
  have hz := HY.out.alloc (.cells (parC ct l0 l1 l2 l3 t0 t1 t2 t3 t4 t5 t6 t7 t8 t9) 163)
  have z0 := hz.cellv (j := 0) (v := .string ⟨#[]⟩) rfl
  have z1 := hz.cellv (j := 1) (v := .string ⟨#[]⟩) rfl
  have z2 := hz.cellv (j := 2) (v := .string ⟨#[]⟩) rfl
  have z3 := hz.cellv (j := 3) (v := .string ct) rfl
  have z4 := hz.cellv (j := 4) (v := .string ⟨#[]⟩) rfl
  have z5 := hz.cellv (j := 5) (v := .string ⟨#[]⟩) rfl
  have z6 := hz.cellv (j := 6) (v := .string ⟨#[]⟩) rfl
  have z7 := hz.cellv (j := 7) (v := .string ⟨#[]⟩) rfl
  have z8 := hz.cellv (j := 8) (v := .int .u8 0) rfl
  have z9 := hz.cellv (j := 9) (v := .int .u32 0) rfl
  have HZ := Lib.hid hz
  clear hz
  refine hK.out _ _ ⟨z0, z1, z2, z3, z4, z5, z6, z7, z8, z9⟩ (fun hHeld => ?_)
  clear hK K
  try simp only [List.getElem_toArray, List.getElem_cons_zero, List.getElem_cons_succ, Act.put, List.setIfInBounds_toArray, List.set_cons_zero, List.set_cons_succ]
  refine wpAnyH_take (i := 5) (v := ?_) rfl (by kernel_rfl) (by kernel_rfl) (by kernel_rfl) (fun _ _ _ h => h) (Or.inl ⟨by rfl, ?_⟩) (by assumption) ?_
  rotate_left
  · (intro w' hSw; (try dsimp only at hSw); go_simp; with_reducible rfl)
  try simp only [List.getElem_toArray, List.getElem_cons_zero, List.getElem_cons_succ, Act.put, List.setIfInBounds_toArray, List.set_cons_zero, List.set_cons_succ]
  refine wpAnyH_done (by kernel_rfl) ?_ _
  go_wp2_with fail
  go_ret
  have b1 : Below w.heap.size w wx := HW.out.trans (Below.trans (Below.refl _ _).drew (HBX.out.mono HW.out.size))
  have b2 : Below w.heap.size w wy := b1.trans (HBY.out.mono b1.size)
  exact ⟨wy.heap.size, _, rfl, RowAt.new _ _ _, parC_60 .., parC_103 .., b2.size, b2.alloc b2.size _⟩


end Go.Proofs.Ytdikaidllmhbhab.fnStoreNameScriptRoundTrip
