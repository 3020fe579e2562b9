import Derived.Test.YthmfjhadkmeldacFmtKit
import Derived.Test.YthmfjhadkmeldacFmtPsC
import Derived.Laws.CopyOwn
import Derived.Lib.SliceRun
import Derived.LaidEqlPtr
namespace Go.Proofs.YthmfjhadkmeldacFmt
open Go.ChangeShapes Go.WideShapes Go.ChangeAt Go.RowKit
set_option linter.unusedVariables false
set_option maxRecDepth 100000
set_option maxHeartbeats 2000000

open Go.Extern
theorem neq_nil (w : World) (t e : TypeId) (a : Option Addr) (n c : Nat) (h : Tryf.prog.underlying t = some (.slice e)) : (binOp .neq t (.slice a n c) (.slice none 0 0)).run Tryf.prog w = .ok (.bool (!a.isNone)) w := by
  simp only [binOp]
  simp [Op.equal, Op.maxDepth, Lib.run_equalIn_slice_nil w 9999 t e a n c 0 0 h]
theorem info41k : (Tryf.prog.info? 41).isSome = true := by kernel_rfl
theorem info41 : ∃ j, Tryf.prog.info? 41 = some j := Option.isSome_iff_exists.1 info41k
theorem ptr_in (W : World) (x : Addr) (d : Nat) : (Op.equalIn (d + 1) 26 (.pointer (some x)) (.pointer (some x))).run Tryf.prog W = .ok true W := by
  obtain ⟨j, hte⟩ := info41
  simp [Op.equalIn, run_underlying Tryf.underlying26, sizeOf, typeInfo, hte, run_sameAddr_same]
theorem ptr_eql (W : World) (x : Addr) : (binOp .eql 26 (.pointer (some x)) (.pointer (some x))).run Tryf.prog W = .ok (.bool true) W := by
  simp only [binOp]
  simp [Op.equal, Op.maxDepth, ptr_in W x 9999]
theorem ptr_neq (W : World) (x : Addr) : (binOp .neq 26 (.pointer (some x)) (.pointer (some x))).run Tryf.prog W = .ok (.bool false) W := by
  simp only [binOp]
  simp [Op.equal, Op.maxDepth, ptr_in W x 9999]
def SomeB (p : Prop) (w : World) (e : Ending) (w' : World) : Prop := ∃ b, e = .returned (.bool b) ∧ w = w' ∧ (b = true → p)
theorem zz4 (a1 : Option Addr) (n1 c1 : Nat) (a2 : Option Addr) (n2 c2 : Nat) (k : Int) (w : World) (h1 : n1 ≤ 9223372036854775807) (h2 : n2 ≤ 9223372036854775807) : Calls Tryf.prog 4 #[.slice a1 n1 c1, .slice a2 n2 c2, .int .i64 k] w (SomeB (n1 ≤ 1048576 ∧ n2 ≤ 1048576) w) := by
  by_cases h : n1 ≤ 1048576
  · by_cases h' : n2 ≤ 1048576
    · by_cases hs : n1 + n2 ≤ 1048576
      · go_enter Tryf.func4, Tryf.ntmps4
        go_wp2
        go_ret
        exact ⟨_, rfl, rfl, fun _ => ⟨h, h'⟩⟩
      · go_enter Tryf.func4, Tryf.ntmps4
        go_wp2
        all_goals
          go_ret
          exact ⟨_, rfl, rfl, fun _ => ⟨h, h'⟩⟩
    · have hn : 1048576 < n2 := by omega
      go_enter Tryf.func4, Tryf.ntmps4
      go_wp2
      go_ret
      exact ⟨_, rfl, rfl, fun e => by cases e⟩
  · have hn : 1048576 < n1 := by omega
    go_enter Tryf.func4, Tryf.ntmps4
    go_wp2
    go_ret
    exact ⟨_, rfl, rfl, fun e => by cases e⟩
/-- The places, in a row of the call's own (or there are none). -/
def Places (w : World) (b0 : Nat) (o1 : Option Addr) (n : Nat) (Lz : Nat → Int) : Prop := n = 0 ∨ ∃ L cs, o1 = some ⟨L, 0, none⟩ ∧ b0 ≤ L ∧ RowAt w L cs 21 ∧ ∀ i, i < n → cs[i]? = some (.int .i32 (Lz i))
theorem Places.kept {w w' : World} {b0 n : Nat} {o1 : Option Addr} {Lz : Nat → Int} (h : Places w b0 o1 n Lz) (hk : ∀ j cs, RowAt w j cs 21 → RowAt w' j cs 21) : Places w' b0 o1 n Lz := by
  rcases h with h | ⟨L, cs, h1, h2, h3, h4⟩
  · exact .inl h
  · exact .inr ⟨L, cs, h1, h2, hk _ _ h3, h4⟩
theorem Places.below {w w' : World} {b0 n : Nat} {o1 : Option Addr} {Lz : Nat → Int} (h : Places w b0 o1 n Lz) (hb : Below w.heap.size w w') : Places w' b0 o1 n Lz := h.kept fun j cs r => r.below hb r.lt
theorem Places.cell {w : World} {b0 n : Nat} {o1 : Option Addr} {Lz : Nat → Int} (h : Places w b0 o1 n Lz) {i : Nat} (hi : i < n) : ∃ L, o1 = some ⟨L, 0, none⟩ ∧ b0 ≤ L ∧ w.cell? ⟨L, i, none⟩ = some (.int .i32 (Lz i)) := by
  rcases h with h | ⟨L, cs, h1, h2, h3, h4⟩
  · omega
  · exact ⟨L, h1, h2, h3.cellv (h4 i hi)⟩
/-- A new scope's cells. -/
def sc1 (m : Int) : Array Value := #[.pointer none, .pointer none, .slice none 0 0, .map none, .slice none 0 0, .slice none 0 0, .int .i32 0, .int .i32 0, .int .u32 0, .int .u32 0, .bool false, .bool false, .bool false, .bool false, .int .u8 0, .int .u8 m]
/-- Pointers laid so far. -/
def pUp (S : Nat → Nat) (k j : Nat) : Value := if j < k then ptr (S j) else .pointer none
/-- The first k scopes have been made. -/
structure Blt (w : World) (R n k : Nat) (z : Nat → Int) (S : Nat → Nat) : Prop where
  cells : Cells w R 26 n (pUp S k)
  row : ∀ j, j < k → RowAt w (S j) (sc1 (z j)) 41
theorem pUp_step {w : World} {R n k b : Nat} {S : Nat → Nat} (h : Cells w R 26 n (pUp S k)) : Cells (w.setCell ⟨R, k, none⟩ (ptr b)) R 26 n (pUp (fun j => if j = k then b else S j) (k + 1)) := by
  refine (h.set k (ptr b)).congr fun j hj => ?_
  unfold upd pUp
  by_cases e : j = k
  · subst e
    rw [if_pos rfl, if_pos (by omega)]; simp
  · rw [if_neg e]
    by_cases h2 : j < k
    · rw [if_pos h2, if_pos (by omega)]; simp [e]
    · rw [if_neg h2, if_neg (by omega)]
theorem Blt.step {w : World} {R n k : Nat} {z : Nat → Int} {S : Nat → Nat} (h : Blt w R n k z S) :
    Blt ((w.setCell ⟨R, k, none⟩ (.pointer (some ⟨w.heap.size, 0, none⟩))).alloc (.cells (sc1 (z k)) 41)) R n (k + 1) z (fun j => if j = k then w.heap.size else S j) := by
  refine ⟨(pUp_step h.cells).alloc _, fun j hj => ?_⟩
  by_cases e : j = k
  · subst e
    simp only [if_pos]
    have := RowAt.new (w.setCell ⟨R, j, none⟩ (.pointer (some ⟨w.heap.size, 0, none⟩))) (sc1 (z j)) 41
    simpa using this
  · simp only [if_neg e]
    have hr := h.row j (by omega)
    obtain ⟨ds, d1, _⟩ := h.cells
    exact (hr.set_other (row_ne hr d1 (by decide)) k _).alloc _
theorem Blt.kept {w w' : World} {R n k : Nat} {z : Nat → Int} {S : Nat → Nat} (h : Blt w R n k z S) (hb : Below w.heap.size w w') : Blt w' R n k z S :=
  ⟨h.cells.below hb h.cells.lt, fun j hj => (h.row j hj).below hb (h.row j hj).lt⟩
theorem made1 {w : World} {B R n : Nat} {E : TypeId} {v : Value} (h : w.ownsRow B E 1 (.slice (some ⟨R, 0, none⟩) n n) n (madeCells #[v] n).toList) : Cells w R E n (fun _ => v) := by
  have h' : w.ownsRow B E 1 (.slice (some ⟨R, 0, none⟩) n n) n (madeCells #[v] (n * 1)).toList := by rw [Nat.mul_one]; exact h
  have := Cells.made h'
  rw [Nat.mul_one] at this
  exact this.congr fun i _ => by simp [Nat.mod_one]
/-- Pointers as a list. -/
def ptrs (S : Nat → Nat) (n : Nat) : List Value := (List.range n).map fun i => ptr (S i)
theorem ptrs_get (S : Nat → Nat) (n i : Nat) (h : i < n) : (ptrs S n)[i]? = some (ptr (S i)) := by
  unfold ptrs
  simp [h]
theorem ptrs_succ (S : Nat → Nat) (n : Nat) : ptrs S (n + 1) = ptrs S n ++ [ptr (S n)] := by
  unfold ptrs
  rw [List.range_succ, List.map_append]
  rfl
theorem ptrs_len (S : Nat → Nat) (n : Nat) : (ptrs S n).length = n := by simp [ptrs]
theorem owns_of_cells {w : World} {B Q n : Nat} {S : Nat → Nat} (h : Cells w Q 26 n (fun j => ptr (S j))) (hB : B ≤ Q) (hn : n ≤ maxLen) : w.ownsRow B 26 1 (.slice (some ⟨Q, 0, none⟩) n n) n (ptrs S n) := by
  obtain ⟨cs, r, hs, hc⟩ := h
  refine ⟨by rw [ptrs_len, Nat.mul_one], .inr ⟨Q, n, cs, rfl, hB, r, Nat.le_refl _, hn, by rw [hs, Nat.mul_one], ?_⟩⟩
  rw [Nat.mul_one, List.take_of_length_le (by simp [hs])]
  refine List.ext_getElem? fun i => ?_
  by_cases hi : i < n
  · rw [ptrs_get S n i hi, Array.getElem?_toList, hc i hi]
  · rw [List.getElem?_eq_none (by simp [hs]; omega), List.getElem?_eq_none (by rw [ptrs_len]; omega)]
/-- What a part's scopes are, cell by cell. -/
theorem own_cells {w : World} {B n : Nat} {V : Value} {xs : List Value} (h : w.ownsRow B 26 1 V n xs) : ∃ ov cap, V = .slice ov n cap ∧ ∀ j v, xs[j]? = some v → ∃ G, ov = some ⟨G, 0, none⟩ ∧ w.cell? ⟨G, j, none⟩ = some v := by
  obtain ⟨h1, h2⟩ := h
  rcases h2 with ⟨hv, h0⟩ | ⟨g, cap, cur, hv, hb, hh, h3, h4, h5, h6⟩
  · subst h0
    refine ⟨none, 0, hv, fun j v hj => ?_⟩
    rw [List.getElem?_eq_none (by omega)] at hj
    cases hj
  · refine ⟨_, cap, hv, fun j v hj => ⟨g, rfl, ?_⟩⟩
    have hl : j < n * 1 := by rw [← h1]; exact (List.getElem?_eq_some_iff.1 hj).1
    have hr : RowAt w g cur 26 := hh
    refine hr.cellv ?_
    rw [← h6, List.getElem?_take, if_pos hl] at hj
    simpa using hj
theorem info21 : (Tryf.prog.info? 21).map (fun i => (i.zero, i.size, i.bytes)) = some (some (.int .i32 0), 1, 4) := by kernel_rfl

/-- A new part's cells. -/
def P51 : Array Value := #[.slice none 0 0, .slice none 0 0, .slice none 0 0, .slice none 0 0, .map none, .map none, .map none, .slice none 0 0, .bool false, .bool false, .bool false]
/-- Scopes, places, earlier scopes. -/
structure Qk (v : World) (b0 R O n e : Nat) (o1 : Option Addr) (S D : Nat → Nat) (z0 z1 : Nat → Int) : Prop where
  sc : Blt v R n n z0 S
  pl : Places v b0 o1 n z1
  od : Cells v O 26 e (pUp D e)
theorem Cells.moved {v v' : World} {R N : Nat} {f : Nat → Value} {E : TypeId} (h : Cells v R E N f) (hk : ∀ es, RowAt v R es E → RowAt v' R es E) : Cells v' R E N f := by
  obtain ⟨cs, r, h1, h2⟩ := h
  exact ⟨cs, hk cs r, h1, h2⟩
theorem Rec.moved {v v' : World} {R s N : Nat} {f : Nat → Nat → Value} {E : TypeId} (h : Rec v R E s N f) (hk : ∀ es, RowAt v R es E → RowAt v' R es E) : Rec v' R E s N f := by
  obtain ⟨cs, r, h1, h2⟩ := h
  exact ⟨cs, hk cs r, h1, h2⟩
theorem Qk.kept {v v' : World} {B b0 R O n e : Nat} {o1 : Option Addr} {S D : Nat → Nat} {z0 z1 : Nat → Int} (h : Qk v b0 R O n e o1 S D z0 z1) (hk : Kp B v v') (hR : R < B) (hO : O < B) : Qk v' b0 R O n e o1 S D z0 z1 :=
  ⟨⟨h.sc.cells.moved fun es r => hk _ _ _ r (.inr hR) (by decide) (by decide), fun j hj => hk _ _ _ (h.sc.row j hj) (.inl (by decide)) (by decide) (by decide)⟩, h.pl.kept fun j cs r => hk _ _ _ r (.inl (by decide)) (by decide) (by decide), h.od.moved fun es r => hk _ _ _ r (.inr hO) (by decide) (by decide)⟩
/-- And the part, its scopes. -/
structure Pk (w v : World) (b0 B q R O n e : Nat) (o1 : Option Addr) (S D : Nat → Nat) (z0 z1 : Nat → Int) : Prop where
  own : v.ownsRow B 26 1 (.slice (some ⟨B, 0, none⟩) e e) e (ptrs D e)
  part : RowAt v q (P51.setIfInBounds 1 (.slice (some ⟨B, 0, none⟩) e e)) 51
  qk : Qk v b0 R O n e o1 S D z0 z1
  bel : Below b0 w v
theorem Pk.kept {w v v' : World} {B q b0 R O n e : Nat} {o1 : Option Addr} {S D : Nat → Nat} {z0 z1 : Nat → Int} (h : Pk w v b0 B q R O n e o1 S D z0 z1) (hk : ∀ j es t, RowAt v j es t → t ≠ 178 → RowAt v' j es t) (hb : Below b0 v v') : Pk w v' b0 B q R O n e o1 S D z0 z1 :=
  ⟨own_kept h.own fun g hg => by
    obtain ⟨⟨es, e1⟩, _⟩ := own_row h.own hg
    exact (hk g es 26 e1 (by decide)).trans e1.symm, hk _ _ _ h.part (by decide),
    ⟨⟨h.qk.sc.cells.moved fun es r => hk _ _ _ r (by decide), fun j hj => hk _ _ _ (h.qk.sc.row j hj) (by decide)⟩, h.qk.pl.kept fun j cs r => hk _ _ _ r (by decide), h.qk.od.moved fun es r => hk _ _ _ r (by decide)⟩,
    h.bel.trans hb⟩
theorem Pk.later {w v v' : World} {B q b0 R O n e : Nat} {o1 : Option Addr} {S D : Nat → Nat} {z0 z1 : Nat → Int} (h : Pk w v b0 B q R O n e o1 S D z0 z1) (hb : Below v.heap.size v v') (hz : b0 ≤ v.heap.size) : Pk w v' b0 B q R O n e o1 S D z0 z1 :=
  h.kept (fun j es t r _ => r.below hb r.lt) (hb.mono hz)
theorem pUp_all {v : World} {R n i : Nat} {S : Nat → Nat} (h : Cells v R 26 n (pUp S n)) (hi : i < n) : v.cell? ⟨R, i, none⟩ = some (ptr (S i)) := by
  have := h.cell hi
  unfold pUp at this
  rwa [if_pos hi] at this
theorem Places.addr {w : World} {b0 n : Nat} {o1 : Option Addr} {Lz : Nat → Int} (h : Places w b0 o1 n Lz) {i : Nat} (hi : i < n) : ∃ x, o1 = some x ∧ w.cell? (x.add i) = some (.int .i32 (Lz i)) := by
  obtain ⟨L, h1, _, h3⟩ := h.cell hi
  exact ⟨_, h1, by rw [addr_add, Nat.zero_add]; exact h3⟩

end Go.Proofs.YthmfjhadkmeldacFmt
