import Derived.Test.YtlehgpnglghlkaaKit
import Derived.Test.YtlehgpnglghlkaaUsB
namespace Go.Proofs.Ytlehgpnglghlkaa
open Go.ChangeShapes Go.WideShapes Go.ChangeAt Go.RowKit
set_option linter.unusedVariables false
set_option maxRecDepth 100000
set_option maxHeartbeats 2000000

theorem rec_live_none_ts (p S T q m n k : Nat) (f g : Nat → Int) (F : Value → Option Value) (cnt : Nat) (w : World) (hk : k < n) (hn : n ≤ 65536) (h : St w p S T q m n false true false f g F cnt) :
    Calls Try.prog 29 #[.pointer (some ⟨p, 0, none⟩), refV k] w (Rec w p S T q m n k false true false f g F cnt) := by
  obtain ⟨⟨cs, h1⟩, h2, h3, h4⟩ := id h
  have c1 := h1.row.cellv h1.dead
  have c2 := h1.row.cellv h1.ts
  have c3 := h1.row.cellv h1.sym
  have c6 := h1.row.cellv (h1.tsc rfl)
  have c7 := (h3 rfl).cell hk
  have f7 := (h3 rfl).frozen k
  have c5 := h1.row.cellv h1.part
  simp only [Bool.false_eq_true, if_false] at c5
  have c4 := h2.cell hk
  have f4 := h2.frozen (k * 10 + 4)
  have z1 : p < w.heap.size := h1.row.lt
  have z3 : S < w.heap.size := h2.lt
  have z4 : T < w.heap.size := (h3 rfl).lt
  have ne : p ≠ S := by obtain ⟨es, s1, _⟩ := h2; exact h1.row.ne s1 (by decide)
  have ne2 : T ≠ S := by
    obtain ⟨es, s1, _⟩ := h2
    obtain ⟨ds, t1, _⟩ := h3 rfl
    exact t1.ne s1 (by decide)
  unfold refV
  have H := Lib.hid h
  clear h h1 h2 h3 h4
  go_enter Try.func29, Try.ntmps29
  go_wp2_with fail
  go_region
  go_wp2_with fail
  go_region
  go_wp2_with fail
  go_end0
  refine ⟨rfl, ?_, ?_⟩
  · exact ((H.out.setS hk).setT hk).later (fun j hj => Below.heap_alloc _ _ _ hj)
  · exact ((((Fr.refl.set (.inl (.inl rfl))).set (.inl (.inr (.inl rfl)))).alloc _).drew).drew

theorem lookRes_false (r : Option Value) (z : Value) : lookRes false r z = r.getD z := by cases r <;> rfl

theorem rec_live_part (p S T q m n k : Nat) (ts : Bool) (f g : Nat → Int) (F : Value → Option Value) (cnt cnt' : Nat) (x : Int) (w : World) (hk : k < n) (hn : n ≤ 65536) (h : St w p S T q m n false ts true f g F cnt) (hF : (F (refV k)).getD (.agg #[.int .u32 0]) = .agg #[.int .u32 x]) (hc : (if (F (refV k)).isSome then cnt else cnt + 1) = cnt') :
    Calls Try.prog 29 #[.pointer (some ⟨p, 0, none⟩), refV k] w (Rec w p S T q m n k false ts true f g (putF F (refV k) (.agg #[.int .u32 (inc x)])) cnt') := by
  obtain ⟨⟨cs, h1⟩, h2, h3, h4⟩ := id h
  have c1 := h1.row.cellv h1.dead
  have c3 := h1.row.cellv h1.sym
  have c5 := h1.row.cellv h1.part
  simp only [if_true] at c5
  have c4 := h2.cell hk
  have f4 := h2.frozen (k * 10 + 4)
  have z1 : p < w.heap.size := h1.row.lt
  have z3 : S < w.heap.size := h2.lt
  have ne : p ≠ S := by obtain ⟨es, s1, _⟩ := h2; exact h1.row.ne s1 (by decide)
  have HF := Lib.hid hF
  have HCN := Lib.hid hc
  have H := Lib.hid h
  clear h h1 h2 h3 h4 hF hc
  show Calls Try.prog 29 #[.pointer (some ⟨p, 0, none⟩), .agg #[.int .u32 0, .int .u32 k]] w (Rec w p S T q m n k false ts true f g (putF F (refV k) (.agg #[.int .u32 (inc x)])) cnt')
  go_enter Try.func29, Try.ntmps29
  go_wp2_with fail
  go_region
  go_wp2_with fail
  have A1 : St (((w.setCell ⟨S, k * 10 + 4, none⟩ (.int .u32 ((f k + 1) % 4294967296))).alloc (.cells #[.int .u32 0, .int .u32 k] 37)).drew) p S T q m n false ts true (updN f k (inc (f k))) g F cnt :=
    (H.out.setS hk).later (fun j hj => Below.heap_alloc _ _ _ hj)
  have A2 : Fr (XX S T m) w (((w.setCell ⟨S, k * 10 + 4, none⟩ (.int .u32 ((f k + 1) % 4294967296))).alloc (.cells #[.int .u32 0, .int .u32 k] 37)).drew) := ((Fr.refl.set (.inl (.inl rfl))).alloc _).drew
  have A3 : RowAt (((w.setCell ⟨S, k * 10 + 4, none⟩ (.int .u32 ((f k + 1) % 4294967296))).alloc (.cells #[.int .u32 0, .int .u32 k] 37)).drew) w.heap.size #[.int .u32 0, .int .u32 k] 37 :=
    RowAt.newAt (W := w.setCell ⟨S, k * 10 + 4, none⟩ (.int .u32 ((f k + 1) % 4294967296))) (by simp)
  generalize hW : ((w.setCell ⟨S, k * 10 + 4, none⟩ (.int .u32 ((f k + 1) % 4294967296))).alloc (.cells #[.int .u32 0, .int .u32 k] 37)).drew = W at A1 A2 A3 ⊢
  clear hW c1 c3 c4 c5 f4 ne z1 z3 H
  obtain ⟨⟨us, u1, u2⟩, u3⟩ := A1.Pt rfl
  have d1 := u1.cellv u2
  have d2 := A3.cellv (j := 0) (v := .int .u32 0) rfl
  have d3 := A3.cellv (j := 1) (v := .int .u32 k) rfl
  have l1 : (Instr.lookup 39 (.map (some m)) (.agg #[.int .u32 0, .int .u32 k]) false).run Try.prog W.drew = .ok (.agg #[.int .u32 x]) W.drew := by
    have := (u3.kept (w' := W.drew) rfl).look keyR Try.underlying39 (zero41 W.drew) (refV_pair k) false
    rw [lookRes_false, HF.out] at this
    exact this
  have l2 : (Instr.lookup 39 (.map (some m)) (.agg #[.int .u32 0, .int .u32 k]) false).run Try.prog (W.alloc (.cells #[.int .u32 0] 41)).drew = .ok (.agg #[.int .u32 x]) (W.alloc (.cells #[.int .u32 0] 41)).drew := by
    have := ((u3.alloc (.cells #[.int .u32 0] 41)).kept (w' := (W.alloc (.cells #[.int .u32 0] 41)).drew) rfl).look keyR Try.underlying39 (zero41 _) (refV_pair k) false
    rw [lookRes_false, HF.out] at this
    exact this
  have y1 : q < W.heap.size := u1.lt
  have y2 : w.heap.size < W.heap.size := A3.lt
  have A1' := Lib.hid A1
  have A2' := Lib.hid A2
  have A3' := Lib.hid A3
  clear A1 A2 A3 u1 u2 u3
  go_region
  all_goals
    go_wp2_with fail
    have B1 := Lib.hid (A1'.out.later (w' := (W.alloc (.cells #[.int .u32 ((x + 1) % 4294967296)] 41)).drew) (fun j hj => Below.heap_alloc _ _ _ hj))
    have B2 := Lib.hid (A2'.out.alloc (.cells #[.int .u32 ((x + 1) % 4294967296)] 41)).drew
    have B3 : RowAt (W.alloc (.cells #[.int .u32 ((x + 1) % 4294967296)] 41)).drew w.heap.size #[.int .u32 0, .int .u32 k] 37 := A3'.out.alloc (.cells #[.int .u32 ((x + 1) % 4294967296)] 41)
    have B4 : RowAt (W.alloc (.cells #[.int .u32 ((x + 1) % 4294967296)] 41)).drew W.heap.size #[.int .u32 ((x + 1) % 4294967296)] 41 := RowAt.new W _ _
    clear d1 d2 d3 l1 l2 A1' A2' A3'
    generalize hW : (W.alloc (.cells #[.int .u32 ((x + 1) % 4294967296)] 41)).drew = W2 at B1 B2 B3 B4 ⊢
    clear hW
    obtain ⟨⟨us, u1, u2⟩, u3⟩ := B1.out.Pt rfl
    have d1 := u1.cellv u2
    have d2 := B3.cellv (j := 0) (v := .int .u32 0) rfl
    have d3 := B3.cellv (j := 1) (v := .int .u32 k) rfl
    have d4 := B4.cellv (j := 0) (v := .int .u32 ((x + 1) % 4294967296)) rfl
    obtain ⟨w3, hrun, hM, hT⟩ := (u3.kept (w' := W2.drew) rfl).update (x := .agg #[.int .u32 ((x + 1) % 4294967296)]) keyR Try.underlying39 (refV_pair k)
    have C1 : St w3 p S T q m n false ts true (updN f k (inc (f k))) g (putF F (refV k) (.agg #[.int .u32 (inc x)])) cnt' := HCN.out ▸ (B1.out.later (w' := W2.drew) (fun j _ => rfl)).turn hT hM
    have C2 : Fr (XX S T m) w w3 := B2.out.drew.turned hT (.inl (.inr (.inr rfl)))
    have C3 : RowAt w3 w.heap.size #[.int .u32 0, .int .u32 k] 37 := hT.row B3 (RowAt.neMap B3 u3)
    have hr : (Instr.mapUpdate 39 (.map (some m)) (.agg #[.int .u32 0, .int .u32 k]) (.agg #[.int .u32 ((x + 1) % 4294967296)])).run Try.prog W2.drew = .ok () w3 := hrun
    clear hrun hM hT u1 u2 u3 B1 B2 B3 B4
    obtain ⟨⟨cs, h1⟩, h2, h3, h4⟩ := id C1
    have c2 := h1.row.cellv h1.ts
    have z1 : p < w3.heap.size := h1.row.lt
    have HC1 := Lib.hid C1
    have HC2 := Lib.hid C2
    cases ts
    · clear h1 h2 h3 h4 C1 C2 C3
      go_region
      go_wp2_with fail
      go_end0
      exact ⟨rfl, HC1.out, HC2.out⟩
    · have c3 := h1.row.cellv (h1.tsc rfl)
      have c4 := (h3 rfl).cell hk
      have f4 := (h3 rfl).frozen k
      have z3 : T < w3.heap.size := (h3 rfl).lt
      have k1 := C3.cellv (j := 1) (v := .int .u32 k) rfl
      clear h1 h2 h3 h4 C1 C2 C3
      go_region
      go_wp2_with fail
      go_region
      go_wp2_with fail
      go_end0
      exact ⟨rfl, (HC1.out.setT hk).later (fun j _ => rfl), (HC2.out.set (.inl (.inr (.inl rfl)))).drew⟩

end Go.Proofs.Ytlehgpnglghlkaa
