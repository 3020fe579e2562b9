import Derived.Test.YtailfkedgdlldaaKit
import Derived.Test.YtailfkedgdlldaaRdA
import Derived.LaidEqlPtr
import Derived.Deep.AppendLies
import Derived.Deep.RegionLaw
namespace Go.Proofs.Ytailfkedgdlldaa
open Go.ChangeShapes Go.WideShapes Go.ChangeAt Go.RowKit
set_option linter.unusedVariables false
set_option maxRecDepth 100000
set_option maxHeartbeats 2000000

theorem eqlSame (p : Addr) (W : World) : (binOp .eql 75 (.pointer (some p)) (.pointer (some p))).run Try.prog W = .ok (.bool true) W := by
  obtain ⟨j, hj⟩ : ∃ j, Try.prog.info? 205 = some j := Option.isSome_iff_exists.1 (by kernel_rfl)
  exact run_eql_ptr_same W p Try.underlying75 hj
theorem size205 : (Try.prog.info? 205).map (·.size) = some 16 := by kernel_rfl
theorem eqlOther {W : World} {a b : Nat} {ca cb : Array Value} (hne : a ≠ b) (ha : RowAt W a ca 205) (hb : RowAt W b cb 205) : (binOp .eql 75 (.pointer (some ⟨a, 0, none⟩)) (.pointer (some ⟨b, 0, none⟩))).run Try.prog W = .ok (.bool false) W := by
  obtain ⟨j, hj, hs⟩ := Option.map_eq_some_iff.1 size205
  exact run_eql_ptr_other W Try.underlying75 hj (by rw [hs]; decide) (fun e => hne (by injection e)) ha hb

/-- What one recording leaves. -/
def Recd (w : World) (p q S cur mod mm B : Nat) (x : Fx) (L : List Nat) (e : Ending) (w' : World) : Prop :=
  e = .returned (.tuple #[]) ∧ (∃ v, Pa w' p q S cur mod B v x L) ∧ Sc w' S cur mod mm x ∧ Fr (RX q B) w w'

section
variable {W W' w2 : World} {p q S cur mod mm B g cap k : Nat} {v : Value} {x : Fx} {L : List Nat} {T : Bool}

theorem step_block (h : Pa W p q S cur mod B v x L) (hW : ∀ j, j < W.heap.size → W'.heap[j]? = W.heap[j]?) (hWs : W.heap.size ≤ W'.heap.size) (hgrow : W'.grownBy w2 v.ownBlock) (u : Value) {j : Nat} (hj : j < W.heap.size) (hjq : j ≠ q) (hj2 : ∀ cs, ¬ RowAt W j cs 83) : (w2.setCell ⟨q, 3, none⟩ u).heap[j]? = W.heap[j]? := by
  rw [Below.heap_setCell _ _ _ _ hjq, hgrow.block j (by omega) (fun e => ?_), hW j hj]
  obtain ⟨⟨es, e1⟩, _⟩ := own83 h.own e.symm
  exact hj2 es e1

theorem ne_type {a : Nat} {cs ds : Array Value} {s t : TypeId} (h : RowAt W a cs s) (hn : s ≠ t) : ¬ RowAt W a ds t := fun g => h.ne g hn rfl

theorem Pa.step (h : Pa W p q S cur mod B v x L) (hW : ∀ j, j < W.heap.size → W'.heap[j]? = W.heap[j]?) (hWs : W.heap.size ≤ W'.heap.size) (hgrow : W'.grownBy w2 v.ownBlock) (hT : x.isTop k = T)
    (hown : w2.ownsRow B 83 3 (.slice (some ⟨g, 0, none⟩) (L.length + 1) cap) (L.length + 1) (ent x L ++ [.int .u32 1, .int .u32 k, .bool T])) :
    Pa (w2.setCell ⟨q, 3, none⟩ (.slice (some ⟨g, 0, none⟩) (L.length + 1) cap)) p q S cur mod B (.slice (some ⟨g, 0, none⟩) (L.length + 1) cap) x (L ++ [k]) := by
  obtain ⟨⟨pc, r1, r2⟩, ⟨qc, d1, d2, d3⟩, ho⟩ := id h
  have hq : w2.heap[q]? = W.heap[q]? := (hgrow.block q (Nat.lt_of_lt_of_le d1.lt hWs) (fun e => by
    obtain ⟨⟨es, e1⟩, _⟩ := own83 ho e.symm
    exact e1.ne d1 (by decide) rfl)).trans (hW q d1.lt)
  have d1' : RowAt w2 q qc 49 := d1.kept hq
  refine ⟨⟨pc, r1.kept (step_block h hW hWs hgrow _ r1.lt (r1.ne d1 (by decide)) fun cs => ne_type r1 (by decide)), r2⟩, ⟨_, d1'.set 3 _, by simpa using d2, ?_⟩, ?_⟩
  · rw [Array.getElem?_setIfInBounds, if_pos rfl, if_pos d2]
  · rw [ent_snoc, hT]
    simp only [List.length_append, List.length_cons, List.length_nil]
    refine own_kept hown fun g' hg' => ?_
    obtain ⟨⟨es, e1⟩, _⟩ := own83 hown hg'
    exact Below.heap_setCell _ _ _ _ (e1.ne d1' (by decide))

theorem Sc.step (hs : Sc W S cur mod mm x) (h : Pa W p q S cur mod B v x L) (hW : ∀ j, j < W.heap.size → W'.heap[j]? = W.heap[j]?) (hWs : W.heap.size ≤ W'.heap.size) (hgrow : W'.grownBy w2 v.ownBlock) (u : Value) : Sc (w2.setCell ⟨q, 3, none⟩ u) S cur mod mm x := by
  obtain ⟨⟨c1, s1, s2⟩, ⟨c2, m1, m2⟩, hc, ⟨F, cnt, f1, f2⟩⟩ := id hs
  obtain ⟨_, ⟨qc, d1, _⟩, _⟩ := id h
  refine hs.kept fun j hj => ?_
  have hcur : ∃ cs, RowAt W cur cs 205 := by
    split at hc
    · rw [hc]; exact ⟨_, m1⟩
    · exact hc.2
  obtain ⟨c3, k1⟩ := hcur
  rcases hj with rfl | rfl | rfl | rfl
  · exact step_block h hW hWs hgrow _ s1.lt (s1.ne d1 (by decide)) fun cs => ne_type s1 (by decide)
  · exact step_block h hW hWs hgrow _ k1.lt (k1.ne d1 (by decide)) fun cs => ne_type k1 (by decide)
  · exact step_block h hW hWs hgrow _ m1.lt (m1.ne d1 (by decide)) fun cs => ne_type m1 (by decide)
  · exact step_block h hW hWs hgrow _ f1.lt (fun e => d1.neMap f1 e.symm) fun cs hr => hr.neMap f1 rfl

theorem Fr.step {w : World} (hf : Fr (RX q B) w W) (h : Pa W p q S cur mod B v x L) (hW : Below W.heap.size W W') (hgrow : W'.grownBy w2 v.ownBlock) (u : Value) : Fr (RX q B) w (w2.setCell ⟨q, 3, none⟩ u) := by
  refine Fr.set (hf.trans ⟨hgrow.os.trans hW.os, hgrow.tape.trans hW.tape, hgrow.output.trans hW.output, Nat.le_trans hW.size hgrow.size, fun j hj hx => ?_⟩) (.inl (.inl rfl))
  rw [hgrow.block j (Nat.lt_of_lt_of_le hj hW.size) (fun e => ?_), hW.block j hj]
  obtain ⟨_, e1⟩ := own83 h.own e.symm
  exact hx (.inr e1)

theorem cell_three {W : World} {g : Nat} {a b c : Value} {t : TypeId} (h : RowAt W g #[a, b, c] t) : ∀ j u, [a, b, c][j]? = some u → W.cell? ((⟨g, 0, none⟩ : Addr).add j) = some u := by
  intro j u hu
  have e : (⟨g, 0, none⟩ : Addr).add j = ⟨g, j, none⟩ := by
    unfold Addr.add
    split
    · rename_i h; rw [h]
    · simp
  rw [e]
  exact h.cellv (by simpa using hu)
end

end Go.Proofs.Ytailfkedgdlldaa
