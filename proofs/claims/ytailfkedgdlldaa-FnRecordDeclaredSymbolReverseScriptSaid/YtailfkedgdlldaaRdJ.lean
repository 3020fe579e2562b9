import Derived.Test.YtailfkedgdlldaaKit
import Derived.Test.YtailfkedgdlldaaRdI
namespace Go.Proofs.Ytailfkedgdlldaa
open Go.ChangeShapes Go.WideShapes Go.ChangeAt Go.RowKit
set_option linter.unusedVariables false
set_option maxRecDepth 100000
set_option maxHeartbeats 2000000

theorem info70r : (Try.prog.info? 70).map (fun i => (i.zero, i.size, i.bytes)) = some (some (.agg #[.pointer none, .string ⟨#[]⟩, .int .u32 0, .int .u32 0, .int .u32 0, .int .u32 0, .int .u32 0, .int .u16 0, .int .u8 0, .int .u8 0]), 10, 48) := by kernel_rfl

/-- The symbols: their names and kinds, the rest zero. -/
def Sy (w : World) (S n : Nat) (nm : Nat → ByteArray) (kd : Nat → Int) : Prop :=
  ∃ cs, RowAt w S cs 70 ∧ cs.size = n * 10 ∧ ∀ i, i < n → ∀ j v, (symCells (nm i) (kd i))[j]? = some v → cs[i * 10 + j]? = some v

theorem Sy.lt {w : World} {S n : Nat} {nm : Nat → ByteArray} {kd : Nat → Int} (h : Sy w S n nm kd) : S < w.heap.size := by
  obtain ⟨cs, hr, _⟩ := h
  exact hr.lt
theorem Sy.later {w w' : World} {S n : Nat} {nm : Nat → ByteArray} {kd : Nat → Int} (h : Sy w S n nm kd) (hb : Below w.heap.size w w') : Sy w' S n nm kd := by
  obtain ⟨cs, hr, h2⟩ := h
  exact ⟨cs, hr.below hb hr.lt, h2⟩
theorem sym_lt {s : ByteArray} {k : Int} {j : Nat} {v : Value} (h : (symCells s k)[j]? = some v) : j < 10 := by
  have := (List.getElem?_eq_some_iff.1 h).1
  simpa [symCells] using this
theorem Sy.cell {w : World} {S n i j : Nat} {nm : Nat → ByteArray} {kd : Nat → Int} {v : Value} (h : Sy w S n nm kd) (hi : i < n) (hv : (symCells (nm i) (kd i))[j]? = some v) : w.cell? ⟨S, i * 10 + j, none⟩ = some v := by
  obtain ⟨cs, hr, _, h2⟩ := h
  exact hr.cellv (h2 i hi j v hv)
theorem Sy.frozen {w : World} {S n : Nat} {nm : Nat → ByteArray} {kd : Nat → Int} (h : Sy w S n nm kd) (o : Nat) : w.frozen? ⟨S, o, none⟩ = false := by
  obtain ⟨cs, hr, _⟩ := h
  exact hr.frozen o

theorem Sy.start {w : World} {B S n : Nat} (h : w.ownsRow B 70 10 (.slice (some ⟨S, 0, none⟩) n n) n (madeCells (Value.agg #[.pointer none, .string ⟨#[]⟩, .int .u32 0, .int .u32 0, .int .u32 0, .int .u32 0, .int .u32 0, .int .u16 0, .int .u8 0, .int .u8 0]).cells (n * 10)).toList) : Sy w S n (fun _ => ⟨#[]⟩) (fun _ => 0) := by
  obtain ⟨cs, h1, h2, h3⟩ := Cells.made h
  refine ⟨cs, h1, h2, fun i hi j v hv => ?_⟩
  have hj := sym_lt hv
  rw [h3 (i * 10 + j) (by omega), ← hv]
  simp only [Value.cells]
  have e : (i * 10 + j) % 10 = j := by omega
  have hj' : j = 0 ∨ j = 1 ∨ j = 2 ∨ j = 3 ∨ j = 4 ∨ j = 5 ∨ j = 6 ∨ j = 7 ∨ j = 8 ∨ j = 9 := by omega
  rcases hj' with rfl | rfl | rfl | rfl | rfl | rfl | rfl | rfl | rfl | rfl <;> simp [e, symCells]

def updS (f : Nat → ByteArray) (k : Nat) (x : ByteArray) : Nat → ByteArray := fun i => if i = k then x else f i

theorem Sy.name {w : World} {S n k : Nat} {nm : Nat → ByteArray} {kd : Nat → Int} (h : Sy w S n nm kd) (hk : k < n) (s : ByteArray) : Sy (w.setCell ⟨S, k * 10 + 1, none⟩ (.string s)) S n (updS nm k s) kd := by
  obtain ⟨cs, h1, h2, h3⟩ := h
  refine ⟨_, h1.set _ _, by simp [h2], fun i hi j v hv => ?_⟩
  have hj := sym_lt hv
  rw [Array.getElem?_setIfInBounds]
  by_cases e : i = k
  · subst e
    unfold updS at hv
    rw [if_pos rfl] at hv
    by_cases e1 : j = 1
    · subst e1
      rw [if_pos rfl, if_pos (by omega), ← hv]
      rfl
    · rw [if_neg (by omega)]
      refine h3 i hi j v ?_
      rw [← hv]
      have hj' : j = 0 ∨ j = 2 ∨ j = 3 ∨ j = 4 ∨ j = 5 ∨ j = 6 ∨ j = 7 ∨ j = 8 ∨ j = 9 := by omega
      rcases hj' with rfl | rfl | rfl | rfl | rfl | rfl | rfl | rfl | rfl <;> rfl
  · unfold updS at hv
    rw [if_neg e] at hv
    rw [if_neg (by omega)]
    exact h3 i hi j v hv
theorem Sy.kind {w : World} {S n k : Nat} {nm : Nat → ByteArray} {kd : Nat → Int} (h : Sy w S n nm kd) (hk : k < n) (x : Int) : Sy (w.setCell ⟨S, k * 10 + 8, none⟩ (.int .u8 x)) S n nm (updN kd k x) := by
  obtain ⟨cs, h1, h2, h3⟩ := h
  refine ⟨_, h1.set _ _, by simp [h2], fun i hi j v hv => ?_⟩
  have hj := sym_lt hv
  rw [Array.getElem?_setIfInBounds]
  by_cases e : i = k
  · subst e
    unfold updN at hv
    rw [if_pos rfl] at hv
    by_cases e1 : j = 8
    · subst e1
      rw [if_pos rfl, if_pos (by omega), ← hv]
      rfl
    · rw [if_neg (by omega)]
      refine h3 i hi j v ?_
      rw [← hv]
      have hj' : j = 0 ∨ j = 1 ∨ j = 2 ∨ j = 3 ∨ j = 4 ∨ j = 5 ∨ j = 6 ∨ j = 7 ∨ j = 9 := by omega
      rcases hj' with rfl | rfl | rfl | rfl | rfl | rfl | rfl | rfl | rfl <;> rfl
  · unfold updN at hv
    rw [if_neg e] at hv
    rw [if_neg (by omega)]
    exact h3 i hi j v hv

theorem isrow_later {k : IntKind} {W W' : World} {a : Option Addr} {l c : Nat} {z : List Int} (h : IsRow k W a l c z) (hb : Below W.heap.size W W') : IsRow k W' a l c z := by
  rcases h with h | ⟨x, e1, e2, e3, e4, e5, e6⟩
  · exact .inl h
  · exact .inr ⟨x, e1, e2, e3, e4, fun i hi => later (e5 i hi) hb, e6⟩

theorem syms23 (n : Nat) (a1 : Option Addr) (l1 c1 : Nat) (z1 : List Int) (a2 : Option Addr) (l2 c2 : Nat) (z2 : List Int) (w : World) (hn : n ≤ 65537) (h1 : l1 ≤ 65536) (h2 : l2 ≤ 65536) (w1 : IsRow .u8 w a1 l1 c1 z1) (w2 : IsRow .u8 w a2 l2 c2 z2)
    (hz1 : ∀ i, i < l1 → 0 ≤ z1.getD i 0 ∧ z1.getD i 0 ≤ 255) (hz2 : ∀ i, i < l2 → 0 ≤ z2.getD i 0 ∧ z2.getD i 0 ≤ 255) :
    Calls Try.prog 23 #[.int .i64 n, .slice a1 l1 c1, .slice a2 l2 c2] w fun e w' => ∃ nm kd, e = .returned (.slice (some ⟨w.heap.size, 0, none⟩) n n) ∧ Sy w' w.heap.size n nm kd ∧ Below w.heap.size w w' := by
  obtain ⟨i0, hi, hz0, hzz1, hzz2⟩ := info_parts info70r
  have HZ1 := Lib.hid hz1
  have HZ2 := Lib.hid hz2
  have HW1 := Lib.hid w1
  have HW2 := Lib.hid w2
  clear hz1 hz2 w1 w2
  go_enter Try.func23, Try.ntmps23
  go_wp2_with (at_make; refine wpList_make_full _ rfl _ _ 34 rfl w.heap.size 70 i0 _ 10 Try.underlying34 hi hz0 hzz1 .i64 .i64 _ _ n rfl rfl rfl rfl (by rw [hzz2]; omega) (by unfold maxLen; omega) (Nat.le_refl _) ?_)
  intro wm hown hgrow
  have hb1 : Below w.heap.size w wm := (Below.refl _ _).grown hgrow (Nat.le_refl _) (fun k hk => by cases hk)
  have hS1 := Lib.hid (Sy.start hown)
  clear hown hgrow hi hz0 hzz1 hzz2 i0
  go_wp2_with fail
  go_loopw [8] (fun v8 wr => ∃ (k : Nat) (nm : Nat → ByteArray) (kd : Nat → Int), k ≤ n ∧ v8 = .int .i64 k ∧ Sy wr w.heap.size n nm kd ∧ Below w.heap.size w wr) (fun v8 _ => n - (intOf v8).toNat)
  case atStart => exact ⟨0, _, _, Nat.zero_le _, rfl, hS1.out, hb1⟩
  case round =>
    obtain ⟨k, nm, kd, hk, rfl, hS, hb⟩ := hrel
    have HS := Lib.hid hS
    have HB := Lib.hid hb
    clear hS hb hS1 hb1
    by_cases hlt : k < n
    · go_wp2_with fail
      refine (idx32 a2 l2 c2 k z2 _ (by omega) h2 (isrow_later HW2.out HB.out) HZ2.out).mono ?_
      rintro e wa ⟨b, rfl, b0, b1, rfl⟩
      go_wp2_with fail
      refine (name31 b _ b0 b1).mono ?_
      rintro e wb ⟨rfl, hb2⟩
      have HS2 := Lib.hid (HS.out.later hb2)
      have HB2 := Lib.hid (HB.out.trans (hb2.mono HB.out.size))
      have y1 := HS2.out.cell (j := 1) hlt rfl
      have f1 := HS2.out.frozen (k * 10 + 1)
      have HS3 := Lib.hid (HS2.out.name hlt (nmB b))
      clear hb2 HS HB
      go_wp2_with fail
      have HB3 : Hid (Below w.heap.size w (wb.setCell ⟨w.heap.size, k * 10 + 1, none⟩ (.string (nmB b)))) := HB2.out.setCell (Nat.le_refl _) _
      clear y1 f1
      refine (kind33 a1 l1 c1 k z1 _ (by omega) h1 (isrow_later HW1.out HB3.out) HZ1.out).mono ?_
      rintro e wc ⟨b', rfl, b0', b1', rfl⟩
      have y8 := HS3.out.cell (j := 8) hlt rfl
      have f8 := HS3.out.frozen (k * 10 + 8)
      have HS4 := Lib.hid (HS3.out.kind hlt b')
      go_wp2_with fail
      go_roundw
      case rel => exact ⟨k + 1, _, _, by omega, by go_num, HS4.out, HB3.out.setCell (Nat.le_refl _) _⟩
      case measure => simp [intOf]; omega
    · obtain rfl : k = n := by omega
      clear hlt
      go_wp2_with fail
      go_ret
      exact ⟨nm, kd, rfl, HS.out, HB.out⟩

end Go.Proofs.Ytailfkedgdlldaa
