import Derived.Test.YtfmfniddnlpkmaaDoorKit
import Derived.Test.YtfmfniddnlpkmaaDoorCuB
import Derived.Test.YtfmfniddnlpkmaaDoorBig
namespace Go.Proofs.YtfmfniddnlpkmaaDoor
open Go.ChangeShapes Go.WideShapes Go.ChangeAt Go.RowKit
set_option linter.unusedVariables false
set_option maxRecDepth 100000
set_option maxHeartbeats 2000000

theorem info59 : (Tryd.prog.info? 59).map (fun i => (i.zero, i.size, i.bytes)) = some (some (.agg #[.pointer none, .string ⟨#[]⟩, .int .u32 0, .int .u32 0, .int .u32 0, .int .u32 0, .int .u32 0, .int .u16 0, .int .u8 0, .int .u8 0]), 10, 48) := by kernel_rfl

theorem syms_made {w : World} {B R n : Nat} (h : w.ownsRow B 59 10 (.slice (some ⟨R, 0, none⟩) n n) n (madeCells (Value.agg #[.pointer none, .string ⟨#[]⟩, .int .u32 0, .int .u32 0, .int .u32 0, .int .u32 0, .int .u32 0, .int .u16 0, .int .u8 0, .int .u8 0]).cells (n * 10)).toList) : Syms w R n (fun _ => 0) := by
  obtain ⟨cs, h1, h2, h3⟩ := Cells.made h
  refine ⟨cs, h1, h2, fun i hi => ?_⟩
  rw [h3 (i * 10 + 4) (by omega)]
  simp [Value.cells, Nat.mul_add_mod]

theorem Syms.congr {w : World} {S n : Nat} {f g : Nat → Int} (h : Syms w S n f) (e : ∀ i, i < n → f i = g i) : Syms w S n g := by
  obtain ⟨cs, h1, h2, h3⟩ := h
  exact ⟨cs, h1, h2, fun i hi => by rw [h3 i hi, e i hi]⟩
theorem Syms.name {w : World} {S n : Nat} {f : Nat → Int} (h : Syms w S n f) (k : Nat) (v : Value) : Syms (w.setCell ⟨S, k * 10 + 1, none⟩ v) S n f := by
  obtain ⟨cs, hr, hs, hx⟩ := h
  refine ⟨_, hr.set _ _, by simp [hs], fun i hi => ?_⟩
  rw [Array.getElem?_setIfInBounds, if_neg (by omega)]
  exact hx i hi
theorem Syms.below {w w' : World} {S n : Nat} {f : Nat → Int} (h : Syms w S n f) (hb : Below w.heap.size w w') : Syms w' S n f := h.kept (hb.block _ h.lt)

theorem syms17 (x : Addr) (n c : Nat) (z : List Int) (w : World) (hn : n ≤ 65536) (hcell : ∀ i, i < n → w.cell? (x.add i) = some (.int .u32 (z.getD i 0))) :
    Calls Tryd.prog 17 #[.slice (some x) n c, .int .i64 n] w fun e w' => e = .returned (.slice (some ⟨w.heap.size, 0, none⟩) n n) ∧ Syms w' w.heap.size n (fun i => z.getD i 0) ∧ Below w.heap.size w w' := by
  obtain ⟨i0, hi, hz0, hz1, hz2⟩ := info_parts info59
  have HC := Lib.hid hcell
  clear hcell
  go_enter Tryd.func17, Tryd.ntmps17
  go_wp2_with (at_make; refine wpList_make_full _ rfl _ _ 44 rfl w.heap.size 59 i0 _ 10 Tryd.underlying44 hi hz0 hz1 .i64 .i64 _ _ n rfl rfl rfl rfl (by rw [hz2]; omega) (by unfold maxLen; omega) (Nat.le_refl _) ?_)
  intro w1 hown hgrow
  have hS : Syms w1 w.heap.size n (fun i => if i < 0 then z.getD i 0 else 0) := (syms_made hown).congr fun i _ => by simp
  have hb1 : Below w.heap.size w w1 := (Below.refl _ _).grown hgrow (Nat.le_refl _) (fun k hk => by cases hk)
  have HS := Lib.hid hS
  clear hown hgrow hi hz0 hz1 hz2 i0 hS
  go_wp2_with fail
  go_loopw [6] (fun v6 wr => ∃ k : Nat, k ≤ n ∧ v6 = .int .i64 k ∧ Syms wr w.heap.size n (fun i => if i < k then z.getD i 0 else 0) ∧ Below w.heap.size w wr) (fun v6 _ => n - (intOf v6).toNat)
  case atStart => exact ⟨0, Nat.zero_le _, rfl, HS.out, hb1⟩
  case round =>
    obtain ⟨k, hk, rfl, hS, hb⟩ := hrel
    have HK := Lib.hid hS
    clear hS HS hb1
    by_cases hlt : k < n
    · have hc := later (HC.out k hlt) hb
      obtain ⟨v, hv⟩ : ∃ v, z.getD k 0 = v := ⟨_, rfl⟩
      rw [hv] at hc
      have HCC := Lib.hid hc
      have c4 := HK.out.cell hlt
      have f4 := HK.out.frozen (k * 10 + 4)
      have HV := Lib.hid hv
      simp only [Nat.lt_irrefl, if_false] at c4
      clear hv hc
      have HN : Hid (Syms (wr.setCell ⟨w.heap.size, k * 10 + 4, none⟩ (.int .u32 v)) w.heap.size n (fun i => if i < k + 1 then z.getD i 0 else 0)) := (HK.out.set v hlt).congr fun i hi => by
        unfold updN
        by_cases e : i = k
        · subst e
          rw [if_pos rfl, if_pos (by omega), HV.out]
        · rw [if_neg e]
          show (if i < k then z.getD i 0 else 0) = _
          by_cases h : i < k
          · rw [if_pos h, if_pos (by omega)]
          · rw [if_neg h, if_neg (by omega)]
      go_wp2_with fail
      refine (get29 x n c k v _ hlt HCC.out).mono ?_
      rintro e wx ⟨rfl, rfl⟩
      go_wp2_with fail
      refine (itoa30 k _ (by omega)).mono ?_
      rintro e wx ⟨s, rfl, hbx⟩
      have HN2 := Lib.hid (HN.out.below hbx)
      have hb2 : Below w.heap.size w wx := Below.trans (show Below w.heap.size w (wr.setCell ⟨w.heap.size, k * 10 + 4, none⟩ (.int .u32 v)) by go_grown) (hbx.mono (by have := hb.size; simpa using this))
      have c5 : ∃ u, wx.cell? ⟨w.heap.size, k * 10 + 1, none⟩ = some u := by
        obtain ⟨cs, hr, hs, _⟩ := HN2.out
        exact ⟨_, hr.cellv (Array.getElem?_eq_getElem (by omega))⟩
      obtain ⟨u, c5⟩ := c5
      have f5 := HN2.out.frozen (k * 10 + 1)
      have HN3 := Lib.hid (HN2.out.name k (.string s))
      clear hbx c4 f4 HN HN2 HK
      go_wp2_with fail
      go_roundw
      case rel => exact ⟨k + 1, by omega, by go_num, HN3.out, by go_grown⟩
      case measure => simp [intOf]; omega
    · obtain rfl : k = n := by omega
      go_wp2_with fail
      go_ret
      exact ⟨rfl, HK.out.congr fun i hi => if_pos hi, hb⟩

/-- An expression whose data is a chain. -/
def GotE (t k n : Nat) (w : World) (e : Ending) (w' : World) : Prop := ∃ d, e = .returned (.agg #[d, .int .i32 0]) ∧ Ch w' t k n d ∧ Below w.heap.size w w'

theorem ident12 (k : Nat) (w : World) : Calls Tryd.prog 12 #[.int .u32 k] w (GotE 0 k 0 w) := by
  go_enter Tryd.func12, Tryd.ntmps12
  go_wp2
  go_returns
  exact ⟨_, rfl, .inl ⟨rfl, _, _, rfl, RowAt.newAt (by go_size), rfl, rfl⟩, by go_grown⟩
theorem ident13 (k : Nat) (w : World) : Calls Tryd.prog 13 #[.int .u32 k] w (GotE 1 k 0 w) := by
  go_enter Tryd.func13, Tryd.ntmps13
  go_wp2
  go_returns
  exact ⟨_, rfl, .inr (.inl ⟨rfl, _, _, rfl, RowAt.newAt (by go_size), rfl, rfl⟩), by go_grown⟩
theorem dot14 (t k n : Nat) (d : Value) (w : World) (h : Ch w t k n d) : Calls Tryd.prog 14 #[.agg #[d, .int .i32 0]] w (GotE t k (n + 1) w) := by
  have H := Lib.hid h
  rcases h.shape with rfl | ⟨T, b, rfl⟩
  · clear h
    go_enter Tryd.func14, Tryd.ntmps14
    go_wp2
    go_returns
    exact ⟨_, rfl, ⟨_, _, _, rfl, RowAt.newAt (by go_size), rfl, rfl, H.out.later fun j hj => Below.block (by go_grown) j hj⟩, by go_grown⟩
  · clear h
    go_enter Tryd.func14, Tryd.ntmps14
    go_wp2
    go_returns
    exact ⟨_, rfl, ⟨_, _, _, rfl, RowAt.newAt (by go_size), rfl, rfl, H.out.later fun j hj => Below.block (by go_grown) j hj⟩, by go_grown⟩

/-- A local statement of one declaration. -/
structure SLoc (w : World) (s : Nat) (was ex : Bool) (b t k n : Nat) : Prop where
  row : ∃ cs D, RowAt w s cs 225 ∧ cs[0]? = some (.slice (some ⟨D, 0, none⟩) 1 1) ∧ cs[2]? = some (.bool ex) ∧ cs[3]? = some (.bool was) ∧
    ∃ ds d q qs, RowAt w D ds 221 ∧ ds[0]? = some (.iface 213 (.pointer (some ⟨q, 0, none⟩))) ∧ ds[1]? = some (.int .i32 0) ∧ ds[2]? = some d ∧ ds[3]? = some (.int .i32 0) ∧
      RowAt w q qs 215 ∧ qs[0]? = some (.int .u32 0) ∧ qs[1]? = some (.int .u32 b) ∧ Ch w t k n d

theorem SLoc.later {w w' : World} {s : Nat} {was ex : Bool} {b t k n : Nat} (h : SLoc w s was ex b t k n) (hb : Below w.heap.size w w') : SLoc w' s was ex b t k n := by
  obtain ⟨cs, D, h1, h2, h3, h4, ds, d, q, qs, g1, g2, g3, g4, g5, g6, g7, g8, g9⟩ := h
  exact ⟨cs, D, h1.below hb h1.lt, h2, h3, h4, ds, d, q, qs, g1.below hb g1.lt, g2, g3, g4, g5, g6.below hb g6.lt, g7, g8, g9.below hb⟩

def GotS (was ex : Bool) (b t k n : Nat) (w : World) (e : Ending) (w' : World) : Prop := ∃ s, e = .returned (.pointer (some ⟨s, 0, none⟩)) ∧ SLoc w' s was ex b t k n ∧ Below w.heap.size w w'

theorem loc15 (was ex : Bool) (b t k n : Nat) (d : Value) (w : World) (h : Ch w t k n d) : Calls Tryd.prog 15 #[.bool was, .bool ex, .int .i32 0, .int .u32 b, .agg #[d, .int .i32 0]] w (GotS was ex b t k n w) := by
  have H := Lib.hid h
  rcases h.shape with rfl | ⟨T, b', rfl⟩
  · clear h
    go_enter Tryd.func15, Tryd.ntmps15
    go_wp2_with fail
    go_ret
    exact ⟨_, rfl, ⟨_, _, RowAt.newAt (by go_size), rfl, rfl, rfl, _, _, _, _, (RowAt.newAt (by go_size)).alloc _, rfl, rfl, rfl, rfl, ((RowAt.newAt (by go_size)).alloc _).alloc _, rfl, rfl, H.out.later fun j hj => Below.block (by go_grown) j hj⟩, by go_grown⟩
  · clear h
    go_enter Tryd.func15, Tryd.ntmps15
    go_wp2_with fail
    go_ret
    exact ⟨_, rfl, ⟨_, _, RowAt.newAt (by go_size), rfl, rfl, rfl, _, _, _, _, (RowAt.newAt (by go_size)).alloc _, rfl, rfl, rfl, rfl, ((RowAt.newAt (by go_size)).alloc _).alloc _, rfl, rfl, H.out.later fun j hj => Below.block (by go_grown) j hj⟩, by go_grown⟩

theorem build184p (S : Option Addr) (n c : Nat) (w : World) :
    (Instr.build 184 #[(9, .slice S n c)]).run Tryd.prog w = .ok (.agg (PZ184.setIfInBounds 106 (.slice S n c))) w := by kernel_rfl
theorem set_ne {cs : Array Value} {i j : Nat} {a v : Value} (hn : i ≠ j) (h : cs[j]? = some v) : (cs.setIfInBounds i a)[j]? = some v := by
  rw [Array.getElem?_setIfInBounds, if_neg hn]
  exact h
theorem set_eq {cs : Array Value} {i : Nat} {a : Value} (h : i < cs.size) : (cs.setIfInBounds i a)[i]? = some a := by
  rw [Array.getElem?_setIfInBounds, if_pos rfl, if_pos h]
def GotP (S n : Nat) (w : World) (e : Ending) (w' : World) : Prop := ∃ p, e = .returned (.pointer (some ⟨p, 0, none⟩)) ∧ (∃ cs, PRow w' p S n cs) ∧ Below w.heap.size w w'
theorem new16 (S n : Nat) (w : World) : Calls Tryd.prog 16 #[.slice (some ⟨S, 0, none⟩) n n] w (GotP S n w) := by
  go_enter Tryd.func16, Tryd.ntmps16
  go_wp2_with (refine wpList_build rfl 184 _ rfl #[(9, .slice (some ⟨S, 0, none⟩) n n)] (by simp [Act.eval]) _ (build184p _ _ _ _) ?_)
  go_ret
  exact ⟨_, rfl, ⟨_, RowAt.newAt (by go_size), set_eq (by simp), set_ne (by decide) PZ184_350, set_ne (by decide) PZ184_105⟩, by go_grown⟩
theorem syms19 (p S n : Nat) (f : Nat → Int) (w : World) (h : St w p S n f) : Calls Tryd.prog 19 #[.pointer (some ⟨p, 0, none⟩)] w fun e w' => e = .returned (.slice (some ⟨S, 0, none⟩) n n) ∧ w = w' := by
  obtain ⟨⟨cs, h1⟩, _⟩ := h
  have c1 := h1.row.cellv h1.sym
  clear h1
  go_enter Tryd.func19, Tryd.ntmps19
  go_wp2_with fail
  go_ret
  exact ⟨rfl, rfl⟩
theorem ign37 (p S n k : Nat) (f : Nat → Int) (w : World) (hk : k < n) (hn : n ≤ 65536) (h : St w p S n f) :
    Calls Tryd.prog 37 #[.pointer (some ⟨p, 0, none⟩), .agg #[.int .u32 0, .int .u32 k]] w fun e w' => e = .returned (.tuple #[]) ∧ St w' p S n (updN f k ((f k - 1) % 4294967296)) ∧ Fr (XS S) w w' := by
  obtain ⟨⟨cs, h1⟩, h2⟩ := id h
  have c1 := h1.row.cellv h1.dead
  have c3 := h1.row.cellv h1.sym
  have c5 := h1.row.cellv h1.part
  have c4 := h2.cell hk
  have f4 := h2.frozen (k * 10 + 4)
  have z1 : p < w.heap.size := h1.row.lt
  have z3 : S < w.heap.size := h2.lt
  have ne : p ≠ S := by obtain ⟨es, s1, _⟩ := h2; exact h1.row.ne s1 (by decide)
  have H := Lib.hid h
  clear h h1 h2
  go_enter Tryd.func37, Tryd.ntmps37
  go_wp2_with fail
  go_region
  go_wp2_with fail
  go_end0
  exact ⟨rfl, (H.out.setS _ hk).later (fun j hj => Below.heap_alloc _ _ _ hj), (((Fr.refl (X := XS S) (w := w)).set (.inl rfl)).alloc _).drew⟩

end Go.Proofs.YtfmfniddnlpkmaaDoor
