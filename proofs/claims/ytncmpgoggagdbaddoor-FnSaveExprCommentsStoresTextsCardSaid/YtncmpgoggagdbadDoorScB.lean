import Derived.Test.YtncmpgoggagdbadDoorKit
import Derived.Test.YtncmpgoggagdbadDoorScA
namespace Go.Proofs.YtncmpgoggagdbadDoor
open Go.ChangeShapes Go.WideShapes Go.ChangeAt Go.RowKit
set_option linter.unusedVariables false
set_option maxRecDepth 100000
set_option maxHeartbeats 2000000

theorem info37 : (Tryd.prog.info? 37).map (fun i => (i.zero, i.size, i.bytes)) = some (some (.agg #[.int .i32 0, .int .i32 0]), 2, 8) := by kernel_rfl
def gv (s l : Nat → Nat) : Nat → Nat → Value := fun i j => if j = 0 then .int .i32 (s i) else .int .i32 (l i)
def byteAt (S : ByteArray) (i : Nat) : Int := ((S.data.getD i 0).toNat : Int)
/-- Range i lies within the text and opens no block comment. -/
def Rg (S : ByteArray) (s l : Nat) : Prop := s + l ≤ S.size ∧ (2 ≤ l → ¬ (byteAt S s = 47 ∧ byteAt S (s + 1) = 42))
def upN (f : Nat → Nat) (k v : Nat) : Nat → Nat := fun i => if i = k then v else f i
theorem upN_same (f : Nat → Nat) (k v : Nat) : upN f k v k = v := if_pos rfl
theorem upN_other (f : Nat → Nat) {k i : Nat} (v : Nat) (h : i ≠ k) : upN f k v i = f i := if_neg h
theorem Rec.set2 {w : World} {R N i : Nat} {E : TypeId} {g : Nat → Nat → Value} (H : Rec w R E 2 N g) (hi : i < N) (a0 a1 : Value) : Rec ((w.setCell ⟨R, i * 2, none⟩ a0).setCell ⟨R, i * 2 + 1, none⟩ a1) R E 2 N (upd2 (upd2 g i 0 a0) i 1 a1) :=
  (H.set0 hi (by omega) a0).set hi (j := 1) (by omega) a1
/-- The first k ranges are laid. -/
structure RU (w : World) (R n k : Nat) (S : ByteArray) (s l : Nat → Nat) : Prop where
  row : ∃ g, Rec w R 37 2 n g ∧ ∀ i, i < k → g i 0 = .int .i32 (s i) ∧ g i 1 = .int .i32 (l i)
  ok : ∀ i, i < k → Rg S (s i) (l i)
theorem RU.step {w : World} {R n k : Nat} {S : ByteArray} {s l : Nat → Nat} (h : RU w R n k S s l) (hk : k < n) (a b : Nat) (ho : Rg S a b) :
    RU ((w.setCell ⟨R, k * 2, none⟩ (.int .i32 a)).setCell ⟨R, k * 2 + 1, none⟩ (.int .i32 b)) R n (k + 1) S (upN s k a) (upN l k b) := by
  obtain ⟨⟨g, hr, hg⟩, hk'⟩ := h
  refine ⟨⟨_, hr.set2 hk _ _, fun i hi => ?_⟩, fun i hi => ?_⟩
  · by_cases e : i = k
    · subst e
      rw [upN_same, upN_same]
      simp [upd2]
    · rw [upN_other _ _ e, upN_other _ _ e]
      have := hg i (by omega)
      simp [upd2, e, this]
  · by_cases e : i = k
    · subst e
      rw [upN_same, upN_same]
      exact ho
    · rw [upN_other _ _ e, upN_other _ _ e]
      exact hk' i (by omega)
theorem RU.below {w w1 : World} {R n k : Nat} {S : ByteArray} {s l : Nat → Nat} (h : RU w R n k S s l) (hb : Below w.heap.size w w1) : RU w1 R n k S s l := by
  obtain ⟨⟨g, hr, hg⟩, hk⟩ := h
  exact ⟨⟨g, hr.below hb hr.lt, hg⟩, hk⟩
/-- What the ranges come to. -/
def R5 (S : ByteArray) (n : Nat) (w : World) (e : Ending) (w' : World) : Prop := Below w.heap.size w w' ∧ ((∃ v, e = .returned (.tuple #[v, .bool false])) ∨ ∃ s l, e = .returned (.tuple #[.slice (some ⟨w.heap.size, 0, none⟩) n n, .bool true]) ∧ RU w' w.heap.size n n S s l)

theorem run_byte {S : ByteArray} (i : Nat) (h : i < S.size) : ∀ W, (Instr.index 9 (.string S) (.int .i64 (i : Int))).run Tryd.prog W = .ok (.int .u8 (byteAt S i)) W := fun W => by
  rw [run_index_string W 9 S .i64 i Tryd.underlying9, dif_pos ⟨by omega, by omega⟩]
  unfold byteAt
  have hi : (i : Int).toNat = i := by omega
  have : S.data.getD i 0 = S[i] := by
    rw [Array.getD_eq_getD_getElem?, Array.getElem?_eq_getElem (by exact h)]
    rfl
  simp [this]

def I32s (w : World) (a : Option Addr) (n : Nat) (z : Nat → Int) : Prop := ∀ i, i < n → ∃ x, a = some x ∧ w.cell? (x.add i) = some (.int .i32 (z i)) ∧ -2147483648 ≤ z i ∧ z i ≤ 2147483647

theorem ranges5 (S : ByteArray) (a1 a2 : Option Addr) (n1 c1 n2 c2 : Nat) (z1 z2 : Nat → Int) (w : World) (hS : S.size ≤ 65536) (hn : n1 ≤ 4096) (h1 : I32s w a1 n1 z1) (h2 : I32s w a2 n2 z2) :
    Calls Tryd.prog 5 #[.string S, .slice a1 n1 c1, .slice a2 n2 c2] w (R5 S n1 w) := by
  obtain ⟨i0, hi, hz0, hz1, hz2⟩ := info_parts info37
  have HX := Lib.hid h1
  have HY := Lib.hid h2
  clear h1 h2
  go_enter Tryd.func5, Tryd.ntmps5
  go_wp2_with (at_make; refine wpList_make_full _ rfl _ _ 24 rfl w.heap.size 37 i0 _ 2 Tryd.underlying24 hi hz0 hz1 .i64 .i64 _ _ n1 rfl rfl rfl rfl (by rw [hz2]; omega) (by unfold maxLen; omega) (Nat.le_refl _) ?_; intro w1 hown hgrow)
  clear hi hz0 hz1 hz2 i0
  have hb1 : Below w.heap.size w w1 := (Below.refl _ _).grown hgrow (Nat.le_refl _) (fun k hk => by cases hk)
  have hB1 : ∃ s l, RU w1 w.heap.size n1 0 S s l := ⟨fun _ => 0, fun _ => 0, ⟨_, Rec.made hown rfl, fun i hi => by omega⟩, fun i hi => by omega⟩
  clear hown hgrow
  go_loopw [9, 11] (fun v9 v11 wr => ∃ k tt : Nat, k ≤ n1 ∧ v11 = .int .i64 k ∧ v9 = .int .i64 tt ∧ tt ≤ 1048576 ∧ (∃ s l, RU wr w.heap.size n1 k S s l) ∧ Below w.heap.size w wr) (fun _ v11 _ => n1 - (intOf v11).toNat)
  case atStart => exact ⟨0, 0, Nat.zero_le _, rfl, rfl, by omega, hB1, hb1⟩
  case round =>
    obtain ⟨k, tt, hk, rfl, rfl, htt, ⟨s, l, hR⟩, hbz⟩ := hrel
    clear hB1 hb1
    by_cases hlt' : ¬ k < n1
    · as_aux_lemma =>
      obtain rfl : k = n1 := by omega
      have HR := Lib.hid hR
      have HB := Lib.hid hbz
      clear hR hbz
      go_wp2_with fail
      go_ret2
      exact ⟨HB.out, .inr ⟨_, _, rfl, HR.out⟩⟩
    have hlt : k < n1 := by omega
    clear hlt'
    obtain ⟨x, rfl, hcx, q0, q1⟩ := HX.out k hlt
    obtain ⟨a, ha0⟩ : ∃ a, z1 k = a := ⟨_, rfl⟩
    rw [ha0] at hcx q0 q1
    have hc1 := later hcx hbz
    obtain ⟨⟨g, hr, hg⟩, _⟩ := id hR
    have d0 := hr.cell0 hlt (by omega)
    have d1 := hr.cell hlt (j := 1) (by omega)
    have d2 := hr.frozen (k * 2)
    have d3 := hr.frozen (k * 2 + 1)
    have hRlt := hr.lt
    have HR := Lib.hid hR
    have HB := Lib.hid hbz
    clear hR hr hg ha0 hcx
    by_cases hl : k < n2
    · as_aux_lemma =>
      obtain ⟨x2, rfl, hcy, y0, y1⟩ := HY.out k hl
      obtain ⟨b, hb0⟩ : ∃ b, z2 k = b := ⟨_, rfl⟩
      rw [hb0] at hcy y0 y1
      have hc2 := later hcy hbz
      clear hcy hb0
      by_cases g1 : a < 0
      · as_aux_lemma =>
        go_wp2_with fail
        go_ret2
        exact ⟨HB.out, .inl ⟨_, rfl⟩⟩
      by_cases g2 : b < 0
      · as_aux_lemma =>
        go_wp2_with fail
        go_ret2
        exact ⟨HB.out, .inl ⟨_, rfl⟩⟩
      by_cases g3 : (S.size : Int) < a
      · as_aux_lemma =>
        go_wp2_with fail
        go_ret2
        exact ⟨HB.out, .inl ⟨_, rfl⟩⟩
      by_cases g4 : (S.size : Int) - a < b
      · as_aux_lemma =>
        go_wp2_with fail
        go_ret2
        exact ⟨HB.out, .inl ⟨_, rfl⟩⟩
      obtain ⟨an, rfl⟩ : ∃ q : Nat, a = q := ⟨a.toNat, by omega⟩
      obtain ⟨bn, rfl⟩ : ∃ q : Nat, b = q := ⟨b.toNat, by omega⟩
      by_cases g5 : bn < 2
      · as_aux_lemma =>
        by_cases g6 : 1048576 < tt + bn
        · as_aux_lemma =>
          go_wp2_with fail
          go_ret2
          exact ⟨HB.out, .inl ⟨_, rfl⟩⟩
        have HO : Hid (Rg S an bn) := Lib.hid ⟨by omega, fun h => by omega⟩
        go_wp2_with fail
        go_roundw
        case rel => exact ⟨k + 1, tt + bn, by omega, by go_num, by go_num, by omega, ⟨_, _, HR.out.step hlt _ _ HO.out⟩, (HB.out.setCell (Nat.le_refl _) _).setCell (Nat.le_refl _) _⟩
        case measure => simp [intOf]; omega
      have i0 := run_byte (S := S) an (by omega)
      have i1 := run_byte (S := S) (an + 1) (by omega)
      rw [Int.natCast_add, show ((1 : Nat) : Int) = 1 from rfl] at i1
      obtain ⟨p0, hp0⟩ : ∃ p, byteAt S an = p := ⟨_, rfl⟩
      obtain ⟨p1, hp1⟩ : ∃ p, byteAt S (an + 1) = p := ⟨_, rfl⟩
      rw [hp0] at i0
      rw [hp1] at i1
      have HP0 := Lib.hid hp0
      have HP1 := Lib.hid hp1
      clear hp0 hp1
      by_cases g7 : p0 = 47
      · by_cases g8 : p1 = 42
        · as_aux_lemma =>
          have g7b : (p0 == 47) = true := by simpa using g7
          have g8b : (p1 == 42) = true := by simpa using g8
          go_wp2_with fail
          go_ret2
          exact ⟨HB.out, .inl ⟨_, rfl⟩⟩
        · as_aux_lemma =>
          have g7b : (p0 == 47) = true := by simpa using g7
          have g8b : (p1 == 42) = false := by simpa using g8
          by_cases g6 : 1048576 < tt + bn
          · as_aux_lemma =>
            go_wp2_with fail
            go_ret2
            exact ⟨HB.out, .inl ⟨_, rfl⟩⟩
          have HO : Hid (Rg S an bn) := Lib.hid ⟨by omega, fun _ h => g8 (HP1.out.symm.trans h.2)⟩
          go_wp2_with fail
          go_roundw
          case rel => exact ⟨k + 1, tt + bn, by omega, by go_num, by go_num, by omega, ⟨_, _, HR.out.step hlt _ _ HO.out⟩, (HB.out.setCell (Nat.le_refl _) _).setCell (Nat.le_refl _) _⟩
          case measure => simp [intOf]; omega
      · as_aux_lemma =>
        have g7b : (p0 == 47) = false := by simpa using g7
        by_cases g6 : 1048576 < tt + bn
        · as_aux_lemma =>
          go_wp2_with fail
          go_ret2
          exact ⟨HB.out, .inl ⟨_, rfl⟩⟩
        have HO : Hid (Rg S an bn) := Lib.hid ⟨by omega, fun _ h => g7 (HP0.out.symm.trans h.1)⟩
        go_wp2_with fail
        go_roundw
        case rel => exact ⟨k + 1, tt + bn, by omega, by go_num, by go_num, by omega, ⟨_, _, HR.out.step hlt _ _ HO.out⟩, (HB.out.setCell (Nat.le_refl _) _).setCell (Nat.le_refl _) _⟩
        case measure => simp [intOf]; omega
    · as_aux_lemma =>
      by_cases g1 : a < 0
      · as_aux_lemma =>
        go_wp2_with fail
        go_ret2
        exact ⟨HB.out, .inl ⟨_, rfl⟩⟩
      by_cases g3 : (S.size : Int) < a
      · as_aux_lemma =>
        go_wp2_with fail
        go_ret2
        exact ⟨HB.out, .inl ⟨_, rfl⟩⟩
      obtain ⟨an, rfl⟩ : ∃ q : Nat, a = q := ⟨a.toNat, by omega⟩
      have HO : Hid (Rg S an 0) := Lib.hid ⟨by omega, fun h => by omega⟩
      go_wp2_with fail
      go_roundw
      case rel => exact ⟨k + 1, tt, by omega, by go_num, by go_num, by omega, ⟨_, _, HR.out.step hlt _ 0 HO.out⟩, (HB.out.setCell (Nat.le_refl _) _).setCell (Nat.le_refl _) _⟩
      case measure => simp [intOf]; omega


end Go.Proofs.YtncmpgoggagdbadDoor
