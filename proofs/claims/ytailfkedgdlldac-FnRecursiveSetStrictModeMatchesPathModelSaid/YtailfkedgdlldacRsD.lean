import Derived.Test.YtailfkedgdlldacKit
import Derived.Test.YtailfkedgdlldacRsC
namespace Go.Proofs.Ytailfkedgdlldac
open Go.ChangeShapes Go.WideShapes Go.ChangeAt Go.RowKit
set_option linter.unusedVariables false
set_option maxRecDepth 100000
set_option maxHeartbeats 2000000

theorem build23 (R1 R2 n : Nat) (zp zm : List Int) (par : Nat → Nat) (w : World) (hn1 : 1 ≤ n) (hn : n ≤ 65536) (hp : ∀ i, i < n → w.cell? ⟨R1, i, none⟩ = some (.int .i64 (zp.getD i 0))) (hm : ∀ i, i < n → w.cell? ⟨R2, i, none⟩ = some (.int .u8 (zm.getD i 0))) (hpar : ∀ i, 0 < i → i < n → zp.getD i 0 = ((par i : Nat) : Int) ∧ par i < i) :
    Calls Try.prog 23 #[.slice (some ⟨R1, 0, none⟩) n n, .slice (some ⟨R2, 0, none⟩) n n] w fun e w' => ∃ P V, e = .returned (.slice (some ⟨w.heap.size, 0, none⟩) n n) ∧ Grw w' w.heap.size w.heap.size n n par zm P V ∧ Below w.heap.size w w' := by
  obtain ⟨i0, hi, hz0, hz1, hz2⟩ := info_parts info61
  have HP := Lib.hid hp
  have HM := Lib.hid hm
  have HR := Lib.hid hpar
  clear hp hm hpar
  go_enter Try.func23, Try.ntmps23
  go_wp2_with (at_make; refine wpList_make_full _ rfl _ _ 59 rfl w.heap.size 61 i0 _ 1 Try.underlying59 hi hz0 hz1 .i64 .i64 _ _ n rfl rfl rfl rfl (by rw [hz2]; omega) (by unfold maxLen; omega) (Nat.le_refl _) ?_)
  intro w1 hown hgrow
  have hb1 : Below w.heap.size w w1 := (Below.refl _ _).grown hgrow (Nat.le_refl _) (fun k hk => by cases hk)
  have hB0 : Hid (Blt w1 w.heap.size w.heap.size n 0 zm (fun _ => 0)) := ⟨(made1 hown).congr fun i _ => by simp, fun j hj => by omega, fun i j hi => by omega, fun j hj => by omega⟩
  clear hown hgrow
  go_wp2_with fail
  go_loopw [7] (fun v7 wr => ∃ (k : Nat) (P : Nat → Nat), k ≤ n ∧ v7 = .int .i64 k ∧ Blt wr w.heap.size w.heap.size n k zm P ∧ Below w.heap.size w wr) (fun v7 _ => n - (intOf v7).toNat)
  case atStart => exact ⟨0, _, Nat.zero_le _, rfl, hB0.out, hb1⟩
  case round =>
    obtain ⟨k, P, hk, rfl, hB, hb⟩ := hrel
    have HB := Lib.hid hB
    clear hB hB0 hb1
    by_cases hlt : k < n
    · have hc := later (HM.out k hlt) hb
      obtain ⟨m, hm⟩ : ∃ m, zm.getD k 0 = m := ⟨_, rfl⟩
      rw [hm] at hc
      have q0 := HB.out.cells.cell hlt
      simp only [Nat.lt_irrefl, if_false] at q0
      have q1 := HB.out.cells.frozen k
      have z := hb.size
      have hlR := HB.out.cells.lt
      have HMM := Lib.hid hm
      have HS := Lib.hid (HB.out.step hlt z)
      clear hm
      go_wp2_with fail
      go_roundw
      case rel =>
        refine ⟨k + 1, (fun j => if j = k then wr.heap.size else P j), by omega, by go_num, ?_, by go_grown⟩
        have := HS.out
        rw [HMM.out] at this
        exact this
      case measure => simp [intOf]; omega
    · obtain rfl : k = n := by omega
      clear hlt
      have HG := Lib.hid (Grw.start (par := par) HB.out)
      clear HB
      go_wp2_with fail
      go_loopw [8, 9] (fun v8 _ wr => ∃ (i : Nat) (V : Nat → Value), 1 ≤ i ∧ i ≤ k ∧ v8 = .int .i64 i ∧ Grw wr w.heap.size w.heap.size k i par zm P V ∧ Below w.heap.size w wr) (fun v8 _ _ => k - (intOf v8).toNat)
      case atStart => exact ⟨1, _, Nat.le_refl _, hn1, rfl, HG.out, hb⟩
      case round =>
        obtain ⟨i, V, hi1, hik, rfl, hG, hbi⟩ := hrel
        have HGi := Lib.hid hG
        clear hG HG hb
        by_cases hlt : i < k
        · have hc := later (HP.out i hlt) hbi
          have hr := HR.out i (by omega) hlt
          obtain ⟨q, hq⟩ : ∃ q : Nat, par i = q := ⟨_, rfl⟩
          rw [hr.1, hq] at hc
          have hqi : q < i := by rw [← hq]; exact hr.2
          have HQ := Lib.hid hq
          clear hq hr
          have q0 : wr.cell? ⟨w.heap.size, q, none⟩ = some (.pointer (some ⟨P q, 0, none⟩)) := HGi.out.cells.cell (by omega)
          have q1 : wr.cell? ⟨w.heap.size, i, none⟩ = some (.pointer (some ⟨P i, 0, none⟩)) := HGi.out.cells.cell hlt
          obtain ⟨csi, ri, ri2, _⟩ := HGi.out.row i hlt
          obtain ⟨x1, hx1⟩ : ∃ x1, csi[1]? = some x1 := ⟨_, Array.getElem?_eq_getElem (by omega)⟩
          have p1 := ri.cellv hx1
          have f1 := ri.frozen 1
          clear ri ri2 hx1
          go_wp2_with fail
          have G1 := HGi.out.parent hlt (.pointer (some ⟨P q, 0, none⟩))
          have B1 : Below w.heap.size w (wr.setCell ⟨P i, 1, none⟩ (.pointer (some ⟨P q, 0, none⟩))) := by
            have := HGi.out.ge i hlt
            go_grown
          clear q0 q1 p1 f1 hc HGi hbi
          generalize hW : wr.setCell ⟨P i, 1, none⟩ (.pointer (some ⟨P q, 0, none⟩)) = W at G1 B1 ⊢
          clear hW
          have hqk : q < k := by omega
          obtain ⟨csq, rq, rq2, _, rq4⟩ := G1.row q hqk
          have hownq := G1.own q hqk
          have hne : (V q).ownBlock ≠ some (P q) := fun hg => by
            obtain ⟨es, e1, _⟩ := own_row hownq hg
            exact e1.ne rq (by decide) rfl
          obtain ⟨vq, hvq⟩ : ∃ vq, V q = vq := ⟨_, rfl⟩
          obtain ⟨len, hlen⟩ : ∃ len, (kids par i q).length = len := ⟨_, rfl⟩
          obtain ⟨xs, hxs⟩ : ∃ xs, (kids par i q).map (ptrV P) = xs := ⟨_, rfl⟩
          have hll := kids_len par i q
          rw [hvq] at rq4 hownq hne
          rw [hlen, hxs] at hownq
          rw [hlen] at hll
          have p2 := rq.cellv rq4
          have pc : W.cell? ⟨w.heap.size, i, none⟩ = some (.pointer (some ⟨P i, 0, none⟩)) := G1.cells.cell hlt
          have zc := G1.cells.lt
          have zq := rq.lt
          have hz := B1.size
          have HA : Hid (((W.alloc (.cells #[.pointer (some ⟨P i, 0, none⟩)] 61)).drew).ownsRow w.heap.size 61 1 vq len xs) := own_kept hownq fun g hg => by
            obtain ⟨es, e1, _⟩ := own_row hownq hg
            exact Below.heap_alloc _ _ _ e1.lt
          have HNW : Hid (∀ j u, [Value.pointer (some ⟨P i, 0, none⟩)][j]? = some u → ((W.alloc (.cells #[.pointer (some ⟨P i, 0, none⟩)] 61)).drew).cell? ((⟨W.heap.size, 0, none⟩ : Addr).add j) = some u) := cell_one_new W _ _
          have HRQ := Lib.hid rq
          have HR4 := Lib.hid rq4
          have HG1 := Lib.hid G1
          have HNE := Lib.hid hne
          have HVQ := Lib.hid hvq
          have HLN := Lib.hid hlen
          have HXS := Lib.hid hxs
          clear G1 rq rq2 rq4 hownq hne hvq hlen hxs
          go_region_law (refine step_append_lies _ rfl (.tmp 51) (.tmp 56) 59 rfl w.heap.size 61 i0 _ 1 8 Try.underlying59 hi hz0 hz1 hz2 rfl (by decide) vq len xs (by simp [Act.eval, Act.put]) HA.out ⟨W.heap.size, 0, none⟩ 1 1 [.pointer (some ⟨P i, 0, none⟩)] (by simp [Act.eval, Act.put]) rfl HNW.out (by simp [Value.oneCell']) (by decide) (by unfold maxLen; omega) (by omega) (by simp; omega) (W.heap.size + 1) (by simp) ?_; intro g cap w2 hown2 hgrow2 hat2 hlt2; have r2 : RowAt w2 (P q) csq 75 := (hgrow2.block (P q) (by simp; omega) (fun e => HNE.out e.symm)).trans (HRQ.out.alloc _); have k2 := r2.cellv HR4.out; have g2 := r2.frozen 2; have HO2 := Lib.hid hown2; have HGR := Lib.hid hgrow2; have HAT := Lib.hid hat2; clear hown2 hgrow2 hat2 r2)
          all_goals
            go_wp2_with fail
            go_roundw
            case rel =>
              refine ⟨i + 1, (fun j => if j = q then .slice (some ⟨g, 0, none⟩) (len + 1) cap else V j), by omega, by omega, by go_num, ?_, ?_⟩
              · have st := HG1.out.step (W' := (W.alloc (.cells #[.pointer (some ⟨P i, 0, none⟩)] 61)).drew) (w2 := w2) (g := g) (cap := cap) hlt (by omega) (by rw [HQ.out]; exact hqk) (fun j hj => Below.heap_alloc _ _ _ hj) (by simp) (by rw [HQ.out, HLN.out, HXS.out]; exact HO2.out) (by rw [HQ.out, HVQ.out]; exact HGR.out) (by rw [HQ.out, HVQ.out]; exact HAT.out)
                rw [HQ.out, HLN.out] at st
                exact st
              · have b2 : Below w.heap.size W w2 := Below.grown (w := (W.alloc (.cells #[.pointer (some ⟨P i, 0, none⟩)] 61)).drew) (((Below.refl _ _).alloc hz _).drew) HGR.out (by simp; omega) (fun j hj => by
                  obtain ⟨es, e1, e2⟩ := own_row HA.out (by rw [hj])
                  exact e2)
                have hge := HG1.out.ge q hqk
                exact (B1.trans b2).setCell (by simpa using hge) _
            case measure => simp [intOf]; omega
        · obtain rfl : i = k := by omega
          clear hlt
          go_wp2_with fail
          go_ret
          exact ⟨P, V, rfl, HGi.out, hbi⟩

end Go.Proofs.Ytailfkedgdlldac
