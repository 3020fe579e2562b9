import Derived.Test.YtmbbabikbmkjpabKit
import Derived.Test.YtmbbabikbmkjpabCvB
import Derived.Test.YtmbbabikbmkjpabBig
import Derived.Laws.BitsAllLaws
namespace Go.Proofs.Ytmbbabikbmkjpab.fnConvertSymbolUseToCallMovesOneUseToOneCall
open Go.ChangeShapes Go.WideShapes Go.ChangeAt Go.RowKit
set_option linter.unusedVariables false
set_option maxRecDepth 100000
set_option maxHeartbeats 2000000

theorem build227 (q : Nat) (w : World) : (Instr.build 227 #[(8, .pointer (some ⟨q, 0, none⟩))]).run Try.prog w = .ok (.agg (PZ227.setIfInBounds 105 (.pointer (some ⟨q, 0, none⟩)))) w := by kernel_rfl
theorem new11 (q : Nat) (w : World) : Calls Try.prog 11 #[.pointer (some ⟨q, 0, none⟩)] w fun e w' => e = .returned (.pointer (some ⟨w.heap.size, 0, none⟩)) ∧ RowAt w' w.heap.size (PZ227.setIfInBounds 105 (.pointer (some ⟨q, 0, none⟩))) 227 ∧ Below w.heap.size w w' := by
  go_enter Try.func11, Try.ntmps11
  go_wp2_with (first | (refine wpList_build rfl 227 _ rfl #[(8, .pointer (some ⟨q, 0, none⟩))] (by simp [Act.eval]) _ (build227 _ _) ?_))
  go_ret
  exact ⟨rfl, RowAt.newAt (by go_size), by go_grown⟩
theorem parser_cell {w : World} {p q : Nat} (h : RowAt w p (PZ227.setIfInBounds 105 (.pointer (some ⟨q, 0, none⟩))) 227) : w.cell? ⟨p, 105, none⟩ = some (.pointer (some ⟨q, 0, none⟩)) := by
  refine h.cellv ?_
  rw [Array.getElem?_setIfInBounds, if_pos rfl, if_pos (by simp)]

/-- What stands behind the conversion. -/
structure S5 (w : World) (q m m2 t o : Nat) (s i s' : Int) (F : Value → Option Value) (n : Nat) (G : Value → Option Value) (k : Nat) : Prop where
  qr : RowAt w q (partC m (some m2)) 56
  mm : MapIs w m IsPair F n
  gm : MapIs w m2 IsPair G k
  tr : RowAt w t #[.int .u32 s, .int .u32 i] 41
  orr : RowAt w o #[.int .u32 s', .int .u32 i] 41
theorem S5.later {w w' : World} {q m m2 t o : Nat} {s i s' : Int} {F : Value → Option Value} {n : Nat} {G : Value → Option Value} {k : Nat} (h : S5 w q m m2 t o s i s' F n G k) (hb : ∀ j, j < w.heap.size → w'.heap[j]? = w.heap[j]?) : S5 w' q m m2 t o s i s' F n G k :=
  ⟨h.qr.kept (hb _ h.qr.lt), h.mm.kept (hb _ h.mm.lt), h.gm.kept (hb _ h.gm.lt), h.tr.kept (hb _ h.tr.lt), h.orr.kept (hb _ h.orr.lt)⟩

theorem conv12_some (p q m m2 n n' k k' : Nat) (s i x y c d : Int) (single : Bool) (F F' G G' : Value → Option Value) (w : World) (hp : w.cell? ⟨p, 105, none⟩ = some (.pointer (some ⟨q, 0, none⟩))) (hq : RowAt w q (partC m (some m2)) 56)
    (hm : MapIs w m IsPair F n) (hm2 : MapIs w m2 IsPair G k) (hpm : p ≠ m) (hpm2 : p ≠ m2) (hne : m2 ≠ m) (hF : (F (refP s i)).getD (.agg #[.int .u32 0]) = .agg #[.int .u32 x]) (hG : (G (refP s i)).getD (.agg #[.int .u32 0, .int .u32 0]) = .agg #[.int .u32 c, .int .u32 d])
    (hy : (x - 1) % 4294967296 = y) (hF' : (if y = 0 then delF F (refP s i) else putF F (refP s i) (.agg #[.int .u32 y])) = F') (hn' : (if y = 0 then (if (F (refP s i)).isSome then n - 1 else n) else (if (F (refP s i)).isSome then n else n + 1)) = n')
    (hG' : putF G (refP s i) (.agg #[.int .u32 ((c + 1) % 4294967296), .int .u32 (if single then (d + 1) % 4294967296 else d)]) = G') (hk' : (if (G (refP s i)).isSome then k else k + 1) = k') :
    Calls Try.prog 12 #[.pointer (some ⟨p, 0, none⟩), .agg #[.int .u32 s, .int .u32 i], .bool single] w (Cvd w q m F' n' (fun j => j = m2) G' k') := by
  have zp := cell_lt hp
  have L := Lib.hid (And.intro hp (And.intro hq (And.intro hm (And.intro hm2 (And.intro hF (And.intro hG (And.intro hy (And.intro hF' (And.intro hn' (And.intro hG' hk'))))))))))
  clear hp hq hm hm2 hF hG hy hF' hn' hG' hk'
  go_enter Try.func12, Try.ntmps12
  go_wp2_with fail
  obtain ⟨hp, hq, hm, hm2, hF, hG, hy, hF', hn', hG', hk'⟩ := L.out
  refine (conv_some p q m m2 n n' k k' s i x y c d single F F' G G' _ (later hp (by go_grown)) (hq.alloc _) (hm.alloc _) (hm2.alloc _) hpm hpm2 hne hF hG hy hF' hn' hG' hk').mono ?_
  rintro e w2 ⟨rfl, mz, rfl, h1, h2, h3, h4⟩
  have R := Lib.hid (And.intro h1 (And.intro h2 (And.intro h3 ((Fr.refl.alloc _).trans h4 : Fr (fun j => j = q ∨ j = m ∨ j = mz) w w2))))
  clear h1 h2 h3 h4 hp hq hm hm2 hF hG hy hF' hn' hG' hk' L
  go_wp2_with fail
  go_end0
  exact ⟨rfl, _, rfl, R.out.1, R.out.2.1, R.out.2.2.1, R.out.2.2.2⟩

theorem conv12_nil (p q m n n' : Nat) (s i x y : Int) (single : Bool) (F F' G' : Value → Option Value) (w : World) (hp : w.cell? ⟨p, 105, none⟩ = some (.pointer (some ⟨q, 0, none⟩))) (hq : RowAt w q (partC m none) 56)
    (hm : MapIs w m IsPair F n) (hpm : p ≠ m) (hF : (F (refP s i)).getD (.agg #[.int .u32 0]) = .agg #[.int .u32 x])
    (hy : (x - 1) % 4294967296 = y) (hF' : (if y = 0 then delF F (refP s i) else putF F (refP s i) (.agg #[.int .u32 y])) = F') (hn' : (if y = 0 then (if (F (refP s i)).isSome then n - 1 else n) else (if (F (refP s i)).isSome then n else n + 1)) = n')
    (hG' : putF (fun _ => none) (refP s i) (.agg #[.int .u32 1, .int .u32 (if single then 1 else 0)]) = G') :
    Calls Try.prog 12 #[.pointer (some ⟨p, 0, none⟩), .agg #[.int .u32 s, .int .u32 i], .bool single] w (Cvd w q m F' n' (fun j => w.heap.size ≤ j) G' 1) := by
  have zp := cell_lt hp
  have L := Lib.hid (And.intro hp (And.intro hq (And.intro hm (And.intro hF (And.intro hy (And.intro hF' (And.intro hn' hG')))))))
  clear hp hq hm hF hy hF' hn' hG'
  go_enter Try.func12, Try.ntmps12
  go_wp2_with fail
  obtain ⟨hp, hq, hm, hF, hy, hF', hn', hG'⟩ := L.out
  refine (conv_nil p q m n n' s i x y single F F' G' _ (later hp (by go_grown)) (hq.alloc _) (hm.alloc _) hpm hF hy hF' hn' hG').mono ?_
  rintro e w2 ⟨rfl, mz, hmz, h1, h2, h3, h4⟩
  have hmz' : w.heap.size ≤ mz := by simp at hmz; omega
  have R := Lib.hid (And.intro h1 (And.intro h2 (And.intro h3 ((Fr.refl.alloc _).trans h4 : Fr (fun j => j = q ∨ j = m ∨ j = mz) w w2))))
  clear h1 h2 h3 h4 hp hq hm hF hy hF' hn' hG' L hmz
  go_wp2_with fail
  go_end0
  exact ⟨rfl, _, hmz', R.out.1, R.out.2.1, R.out.2.2.1, R.out.2.2.2⟩
theorem xor_ne (s : Int) (h0 : 0 ≤ s) (h1 : s ≤ 4294967295) : bits .xor .u32 s 1 ≠ s := by
  rw [u32_xor s 1 h0 (by omega) (by omega) (by omega)]
  intro e
  have e2 : s.toNat ^^^ (1 : Int).toNat = s.toNat := by omega
  have e3 := congrArg (fun n => n.testBit 0) e2
  simp at e3
  omega

theorem ref_ne {s s' i : Int} (h : s' ≠ s) : refP s i ≠ refP s' i := by
  intro e
  unfold refP at e
  injection e with e
  simp at e
  exact h e.symm



end Go.Proofs.Ytmbbabikbmkjpab.fnConvertSymbolUseToCallMovesOneUseToOneCall
