import Derived.Test.YtfmfniddnlpkmaaDoorKit
import Derived.Test.YtfmfniddnlpkmaaDoorObB
import Derived.Deep.RegionLaw
import Derived.Deep.RegionLawGrows
namespace Go.Proofs.YtfmfniddnlpkmaaDoor
open Go.ChangeShapes Go.WideShapes Go.ChangeAt Go.RowKit
set_option linter.unusedVariables false
set_option maxRecDepth 100000
set_option maxHeartbeats 2000000

def Cal38 (p S mm : Nat) (un loc : Int) (f0 f1 k : Nat) (w : World) (e : Ending) (w' : World) : Prop := (∃ x, e = .returned (.agg #[.iface 264 (.pointer (some ⟨x, 0, none⟩)), .int .i32 loc])) ∧ OS w' p S mm un (inc k 0 f0) (inc k 1 f1) ∧ Fr (XS S) w w'
set_option maxHeartbeats 4000000 in
theorem call38 (p S mm : Nat) (un loc : Int) (f0 f1 k f : Nat) (key : ByteArray) (sa : Option Addr) (sn sc : Nat) (w : World) (hk : k = 0 ∧ key = kV ∧ f = f0 ∨ k = 1 ∧ key = kP ∧ f = f1) (hf : f ≤ 1048576) (h : OS w p S mm un f0 f1) :
    Calls Tryd.prog 38 #[.pointer (some ⟨p, 0, none⟩), .agg #[.int .i32 loc], .string key, .slice sa sn sc] w (Cal38 p S mm un loc f0 f1 k w) := by
  have zs := h.lts.2.1
  have HH := Lib.hid h
  have HK := Lib.hid hk
  clear h hk
  go_enter Tryd.func38, Tryd.ntmps38
  go_wp2_with fail
  have hbw : Below w.heap.size w ((w.alloc (.cells #[.int .i32 loc] 36)).alloc (.cells #[.nilIface, .int .i32 0] 38)) := ((Below.refl _ _).alloc (Nat.le_refl _) _).alloc (by simp) _
  have R3 : RowAt ((w.alloc (.cells #[.int .i32 loc] 36)).alloc (.cells #[.nilIface, .int .i32 0] 38)) w.heap.size #[.int .i32 loc] 36 := (RowAt.new w _ _).alloc _
  have R4 : RowAt ((w.alloc (.cells #[.int .i32 loc] 36)).alloc (.cells #[.nilIface, .int .i32 0] 38)) (w.heap.size + 1) #[.nilIface, .int .i32 0] 38 := RowAt.newAt (by simp)
  have A0 := HH.out.below hbw
  generalize hW : (w.alloc (.cells #[.int .i32 loc] 36)).alloc (.cells #[.nilIface, .int .i32 0] 38) = W at hbw R3 R4 A0 ⊢
  clear hW HH
  have a0 := R3.cellv (j := 0) (v := .int .i32 loc) rfl
  have HA0 : Hid (OS W.drew p S mm un f0 f1) := A0.below (Below.refl _ _).drew
  have HR3 : Hid (RowAt W.drew w.heap.size #[.int .i32 loc] 36) := R3
  have HR4 : Hid (RowAt W.drew (w.heap.size + 1) #[.nilIface, .int .i32 0] 38) := R4
  have HBW : Hid (Below w.heap.size w W.drew) := hbw.drew
  have y3 := R3.lt
  have y4 := R4.lt
  clear R3 R4 A0 hbw
  refine wp_region_held_drew (S := fun w' => w'.cell? ⟨w.heap.size, 0, none⟩ = some (.int .i32 loc)) (by kernel_rfl) (by go_keep) (fun hHeld => ?_)
  refine wpAnyH_take (i := 0) (v := ?_) rfl (by kernel_rfl) (by kernel_rfl) (by kernel_rfl) (fun _ _ _ h => h) (Or.inl ⟨by rfl, ?_⟩) (by assumption) ?_
  rotate_left
  · (intro w' hSw; (try dsimp only at hSw); go_simp; with_reducible rfl)
  try simp only [List.getElem_toArray, List.getElem_cons_zero, List.getElem_cons_succ, Act.put, List.setIfInBounds_toArray, List.set_cons_zero, List.set_cons_succ]
  refine wpAnyH_take (i := 1) (v := ?_) rfl (by kernel_rfl) (by kernel_rfl) (by kernel_rfl) (fun _ _ _ h => h) (Or.inl ⟨by rfl, ?_⟩) (by assumption) ?_
  rotate_left
  · (intro w' hSw; (try dsimp only at hSw); go_simp; with_reducible rfl)
  try simp only [List.getElem_toArray, List.getElem_cons_zero, List.getElem_cons_succ, Act.put, List.setIfInBounds_toArray, List.set_cons_zero, List.set_cons_succ]
  refine wpAnyH_take (i := 2) (v := ?_) rfl (by kernel_rfl) (by kernel_rfl) (by kernel_rfl) (fun _ _ _ h => h) (Or.inl ⟨by rfl, ?_⟩) (by assumption) ?_
  rotate_left
  · (intro w' hSw; (try dsimp only at hSw); go_simp; with_reducible rfl)
  try simp only [List.getElem_toArray, List.getElem_cons_zero, List.getElem_cons_succ, Act.put, List.setIfInBounds_toArray, List.set_cons_zero, List.set_cons_succ]
  refine wpAnyH_take (i := 3) (v := ?_) rfl (by kernel_rfl) (by kernel_rfl) (by kernel_rfl) (fun _ _ _ h => h) (Or.inl ⟨by rfl, ?_⟩) (by assumption) ?_
  rotate_left
  · (intro w' hSw; (try dsimp only at hSw); go_simp; with_reducible rfl)
  try simp only [List.getElem_toArray, List.getElem_cons_zero, List.getElem_cons_succ, Act.put, List.setIfInBounds_toArray, List.set_cons_zero, List.set_cons_succ]
  refine wpAnyH_take (i := 5) (v := ?_) rfl (by kernel_rfl) (by kernel_rfl) (by kernel_rfl) (fun _ _ _ h => h) (Or.inl ⟨by rfl, ?_⟩) (by assumption) ?_
  rotate_left
  · (intro w' hSw; (try dsimp only at hSw); go_simp; with_reducible rfl)
  try simp only [List.getElem_toArray, List.getElem_cons_zero, List.getElem_cons_succ, Act.put, List.setIfInBounds_toArray, List.set_cons_zero, List.set_cons_succ]
  refine wpAnyH_ready (rs := [4]) (by kernel_rfl) (by simp) ?_
  refine AllReadyH.cons rfl (fun K hK => ?_) AllReadyH.nil
  simp only [List.getElem_toArray, List.getElem_cons_zero, List.getElem_cons_succ]
  go_simp
  refine (import39 p S mm un loc f0 f1 k f key _ HK.out hf HA0.out).mono ?_
  rintro e w5 ⟨⟨x, rfl⟩, hos, hfr⟩
  have V3 := hfr.row HR3.out (fun e => by have : w.heap.size = S := e; omega)
  have V4 := hfr.row HR4.out (fun e => by have : w.heap.size + 1 = S := e; omega)
  have HOS := Lib.hid hos
  have HFR : Hid (Fr (XS S) w w5) := (Fr.of_below HBW.out).trans hfr
  have k0 := V3.cellv (j := 0) (v := .int .i32 loc) rfl
  have r0 := V4.cellv (j := 0) (v := .nilIface) rfl
  have r1 := V4.cellv (j := 1) (v := .int .i32 0) rfl
  have fr := V4.frozen
  have z3 := V3.lt
  have z4 := V4.lt
  have HV3 := Lib.hid V3
  have HV4 := Lib.hid V4
  clear hos hfr V3 V4
  refine hK.out _ _ k0 (fun hHeld => ?_)
  clear hK K
  try simp only [List.getElem_toArray, List.getElem_cons_zero, List.getElem_cons_succ, Act.put, List.setIfInBounds_toArray, List.set_cons_zero, List.set_cons_succ]
  refine wpAnyH_take (i := 6) (v := ?_) rfl (by kernel_rfl) (by kernel_rfl) (by kernel_rfl) (fun _ _ _ h => h) (Or.inl ⟨by rfl, ?_⟩) (by assumption) ?_
  rotate_left
  · (intro w' hSw; (try dsimp only at hSw); go_simp; with_reducible rfl)
  try simp only [List.getElem_toArray, List.getElem_cons_zero, List.getElem_cons_succ, Act.put, List.setIfInBounds_toArray, List.set_cons_zero, List.set_cons_succ]
  refine wpAnyH_ready (rs := [7]) (by kernel_rfl) (by simp) ?_
  refine AllReadyH.cons rfl (fun K hK => ?_) AllReadyH.nil
  simp only [List.getElem_toArray, List.getElem_cons_zero, List.getElem_cons_succ]
  go_simp
  refine hK.out _ _ ((HV3.out.alloc _).cellv rfl) (fun hHeld => ?_)
  clear hK K
  try simp only [List.getElem_toArray, List.getElem_cons_zero, List.getElem_cons_succ, Act.put, List.setIfInBounds_toArray, List.set_cons_zero, List.set_cons_succ]
  refine wpAnyH_take (i := 8) (v := ?_) rfl (by kernel_rfl) (by kernel_rfl) (by kernel_rfl) (fun _ _ _ h => h) (Or.inl ⟨by rfl, ?_⟩) (by assumption) ?_
  rotate_left
  · (intro w' hSw; (try dsimp only at hSw); go_simp; with_reducible rfl)
  try simp only [List.getElem_toArray, List.getElem_cons_zero, List.getElem_cons_succ, Act.put, List.setIfInBounds_toArray, List.set_cons_zero, List.set_cons_succ]
  refine wpAnyH_take (i := 9) (v := ?_) rfl (by kernel_rfl) (by kernel_rfl) (by kernel_rfl) (fun _ _ _ h => h) (Or.inl ⟨by rfl, ?_⟩) (by assumption) ?_
  rotate_left
  · (intro w' hSw; (try dsimp only at hSw); go_simp; with_reducible rfl)
  try simp only [List.getElem_toArray, List.getElem_cons_zero, List.getElem_cons_succ, Act.put, List.setIfInBounds_toArray, List.set_cons_zero, List.set_cons_succ]
  refine wpAnyH_ready (rs := [10]) (by kernel_rfl) (by simp) ?_
  refine AllReadyH.cons rfl (fun K hK => ?_) AllReadyH.nil
  simp only [List.getElem_toArray, List.getElem_cons_zero, List.getElem_cons_succ]
  go_simp
  have hne3 : w.heap.size ≠ w.heap.size + 1 := by omega
  refine hK.out _ _ (by go_keep) (fun hHeld => ?_)
  clear hK K
  try simp only [List.getElem_toArray, List.getElem_cons_zero, List.getElem_cons_succ, Act.put, List.setIfInBounds_toArray, List.set_cons_zero, List.set_cons_succ]
  refine wpAnyH_done (by kernel_rfl) ?_ _
  go_wp2_with fail
  have q : RowAt (World.alloc ((w5.setCell ⟨w.heap.size + 1, 0, none⟩ (.iface 264 (.pointer (some ⟨w5.heap.size, 0, none⟩)))).setCell ⟨w.heap.size + 1, 1, none⟩ (.int .i32 loc)) (.cells #[.iface 203 (.pointer (some ⟨x, 0, none⟩)), .int .i32 loc, .slice sa sn sc, .int .i32 0, .int .u8 0, .int .u8 0, .bool false, .bool false] 268)) (w.heap.size + 1) _ 38 := ((HV4.out.set 0 (.iface 264 (.pointer (some ⟨w5.heap.size, 0, none⟩)))).set 1 (.int .i32 loc)).alloc _
  have q0 := q.cellv (j := 0) (v := .iface 264 (.pointer (some ⟨w5.heap.size, 0, none⟩))) rfl
  have q1 := q.cellv (j := 1) (v := .int .i32 loc) rfl
  refine bodyPost_ret (v := .agg #[.iface 264 (.pointer (some ⟨w5.heap.size, 0, none⟩)), .int .i32 loc]) (by simp [results, Tryd.results38, go_sem, q0, q1]) rfl ?_
  refine ⟨⟨_, rfl⟩, OS.below ((HOS.out.setRow HV4.out (by decide) (by decide)).setRow (HV4.out.set 0 _) (by decide) (by decide)) ((Below.refl _ _).alloc (Nat.le_refl _) _), ?_⟩
  exact (((HFR.out.set (.inr (Nat.le_succ _))).set (.inr (Nat.le_succ _))).alloc _)


end Go.Proofs.YtfmfniddnlpkmaaDoor
