import Derived.Test.YtpbajadomgdajaaDoorKit
import Derived.Test.YtpbajadomgdajaaDoorGnB
import Derived.Shelf.Unicode.DecodeLast
import Derived.Shelf.Strings.AsciiSet
import Derived.Lib.Builder
namespace Go.Proofs.YtpbajadomgdajaaDoor
open Go.ChangeShapes Go.WideShapes Go.ChangeAt Go.RowKit
set_option linter.unusedVariables false
set_option maxRecDepth 100000
set_option maxHeartbeats 2000000

open Go.Shelf
def TB (B : Nat) (W : World) : Prop := Lib.Utf8Tabs 1 2 W ∧ 2 < B
theorem TB.below {B : Nat} {W W' : World} (h : TB B W) (hb : Below B W W') : TB B W' := by
  have h0 : (1 : Nat) < B := by have := h.2; omega
  have h1 : (2 : Nat) < B := h.2
  exact ⟨⟨fun c hc => (hb.cell (p := ⟨1, c, none⟩) h0).trans (h.1.1 c hc), fun c hc => ⟨(hb.cell (p := ⟨2, 2 * c, none⟩) h1).trans (h.1.2 c hc).1, (hb.cell (p := ⟨2, 2 * c + 1, none⟩) h1).trans (h.1.2 c hc).2⟩⟩, h.2⟩
theorem dec19 (s : ByteArray) (w : World) (hs : s.size ≤ 1048576) (hT : Lib.Utf8Tabs 1 2 w) : Calls Tryd.prog 19 #[.string s] w fun e w' => e = .returned (.tuple #[.int .i32 ((Lib.decodeLastL s.data.toList).1 : Nat), .int .i64 ((Lib.decodeLastL s.data.toList).2 : Nat)]) ∧ Below w.heap.size w w' :=
  Any.utf8_DecodeLastRuneInString (ρ := lays271_ren) lays271 s w (by omega) hT
theorem use16 (n : Int) (w : World) : Calls Tryd.prog 16 #[.int .i64 n] w fun e w' => e = .returned (.bool (decide (8 < n))) ∧ w' = w := by
  go_enter Tryd.func16, Tryd.ntmps16
  go_wp2
  go_ret
  exact ⟨rfl, rfl⟩
theorem nosep_mem (s : ByteArray) (hn : NoSep s) : ∀ c ∈ s.data.toList, c.toNat ≠ 47 ∧ c.toNat ≠ 92 := by
  intro c hc
  obtain ⟨i, hi, rfl⟩ := List.getElem_of_mem hc
  have hi' : i < s.size := by rw [Lib.size_eq]; exact hi
  have := hn i hi'
  have e : s.data.toList[i] = s[i]'hi' := by simp [ByteArray.getElem_eq_getElem_data]
  rw [e]
  simp [isS] at this
  exact ⟨this.1.1, this.1.2⟩
/-- The chars: two bytes, none of which a rune of s is. -/
structure Two (t : ByteArray) : Prop where
  size : ((t.size : Int) == 1) = false
  none : t.toList.isEmpty = false
  miss : ∀ (r : Nat) (W : World), r ≠ 47 → r ≠ 92 → Calls Tryd.prog 15 #[.string t, .int .i32 (r : Int)] W (Miss W)
  big : t.size = 2
  is : t.data.toList = [47, 92]
theorem two_sb : Two sb := ⟨by decide, by rw [Lib.toList_data]; rfl, ixr_none, rfl, rfl⟩
/-- s of one byte. -/
theorem lia_one (s : ByteArray) (hn : NoSep s) (h1 : s.size = 1) (t : ByteArray) (ht : Two t) (W : World) : Calls Tryd.prog 13 #[.string s, .string t] W (Miss W) := by
  have hsz : (s.size : Int) = 1 := by omega
  have hidx : ∀ W : World, (Instr.index 9 (.string s) (.int .i64 0)).run Tryd.prog W = .ok (.int .u8 (((s[0]'(by omega)).toNat : Nat) : Int)) W := index_at s 0 (by omega)
  have hb := hn 0 (by omega)
  obtain ⟨c, hc⟩ : ∃ c : Nat, c = (s[0]'(by omega)).toNat := ⟨_, rfl⟩
  rw [← hc] at hidx hb
  have hc47 : c ≠ 47 ∧ c ≠ 92 := by simp [isS] at hb; exact ⟨hb.1.1, hb.1.2⟩
  have hlt : c < 256 := by rw [hc]; exact UInt8.toNat_lt _
  have HC := Lib.hid hc
  clear hc
  have t1 := ht.size
  have t2 := ht.none
  have HT := Lib.hid ht
  clear ht
  by_cases h : 128 ≤ c
  · have h' : (128 : Int) ≤ c := by omega
    go_enter Tryd.func13, Tryd.ntmps13
    go_wp2_with fail
    refine (HT.out.miss 65533 _ (by decide) (by decide)).mono ?_
    rintro e w1 ⟨rfl, hw⟩
    go_wp2
    go_ret
    exact ⟨rfl, hw⟩
  · have h' : ¬ (128 : Int) ≤ c := by omega
    go_enter Tryd.func13, Tryd.ntmps13
    go_wp2_with fail
    refine (HT.out.miss c _ hc47.1 hc47.2).mono ?_
    rintro e w1 ⟨rfl, hw⟩
    go_wp2
    go_ret
    exact ⟨rfl, hw⟩
/-- s of none, or of two to eight bytes. -/
theorem lia_short (s : ByteArray) (hn : NoSep s) (h1 : s.size ≠ 1) (h8 : s.size ≤ 8) (t : ByteArray) (ht : Two t) (B : Nat) (W : World) (hB : B ≤ W.heap.size) (hT : TB B W) : Calls Tryd.prog 13 #[.string s, .string t] W (Miss W) := by
  have hsz : ((s.size : Int) == 1) = false := beq_false_of_ne (by omega)
  have t1 := ht.size
  have t2 := ht.none
  have HT := Lib.hid ht
  clear ht
  have h8z : decide ((8 : Int) < (s.size : Int)) = false := decide_eq_false (by omega)
  go_enter Tryd.func13, Tryd.ntmps13
  go_wp2_with fail
  refine (use16 _ _).mono ?_
  rintro e w1 ⟨rfl, hw⟩
  rw [h8z, hw]
  clear hw
  go_wp2_with fail
  go_loopw [13] (fun v13 wr => ∃ i : Nat, i ≤ s.size ∧ v13 = .int .i64 i ∧ Below W.heap.size W wr) (fun v13 _ => (intOf v13).toNat)
  case atStart => exact ⟨s.size, Nat.le_refl _, rfl, Below.refl _ _⟩
  case round =>
    obtain ⟨i, hil, rfl, hbw⟩ := hrel
    by_cases hi : 0 < i
    · have hi' : (0 : Int) < (i : Int) := by omega
      have hi0 : (0 : Int) ≤ (i : Int) := by omega
      have hil' : (i : Int) ≤ (s.size : Int) := by omega
      have hT' : TB B wr := hT.below (hbw.mono hB)
      obtain ⟨d1, d2, d3, d4⟩ := last_nosep s.data.toList (nosep_mem s hn) i hi (by rw [← Lib.size_eq]; exact hil)
      have hex : (s.extract 0 i).data.toList = s.data.toList.take i := by rw [Lib.extract_eq]; simp
      have hdec := dec19 (s.extract 0 i) wr (by simp; omega) hT'.1
      rw [hex] at hdec
      obtain ⟨r, hr⟩ : ∃ r : Nat, r = (Lib.decodeLastL (s.data.toList.take i)).1 := ⟨_, rfl⟩
      obtain ⟨k, hk⟩ : ∃ k : Nat, k = (Lib.decodeLastL (s.data.toList.take i)).2 := ⟨_, rfl⟩
      rw [← hr] at d1 d2
      rw [← hk] at d3 d4
      rw [← hr, ← hk] at hdec
      clear hr hk hex
      go_wp2_with fail
      refine hdec.mono ?_
      rintro e w1 ⟨rfl, hw1⟩
      clear hdec
      go_wp2_with fail
      refine (HT.out.miss r _ d1 d2).mono ?_
      rintro e w2 ⟨rfl, hw2⟩
      go_wp2_with fail
      go_roundw
      case rel => exact ⟨i - k, by omega, by go_num, (hbw.trans (hw1.mono hbw.size)).trans (hw2.mono (Nat.le_trans hbw.size hw1.size))⟩
      case measure => simp [intOf]; omega
    · have hi' : ¬ (0 : Int) < (i : Int) := by omega
      go_wp2_with fail
      go_ret
      exact ⟨rfl, hbw⟩
theorem zero33 : ∀ w : World, (zeroValue 33).run Tryd.prog w = .ok (.agg (Array.replicate 256 (.bool false))) w := fun w => by kernel_rfl
theorem info33 : (Tryd.prog.info? 33).map (·.size) = some 256 := by kernel_rfl
theorem make17 (t : ByteArray) (ht : Two t) (w : World) : Calls Tryd.prog 17 #[.string t] w fun e w' => e = .returned (.tuple #[.agg (Lib.setCells t.data.toList), .bool true]) ∧ w' = w.alloc (.cells (Lib.setCells t.data.toList) 33) :=
  Any.strings_makeASCIISet (ρ := lays227_ren) lays227 zero33 info33 t w (by have := ht.big; omega) (by
    intro j b hb
    rw [ht.is] at hb
    match j, hb with
    | 0, hb => have : b = 47 := by simpa using hb.symm
               subst this; decide
    | 1, hb => have : b = 92 := by simpa using hb.symm
               subst this; decide
    | j + 2, hb => simp at hb)
theorem cont18 (b : Nat) (x : UInt8) (v : Bool) (w : World) (hc : w.cell? ⟨b, x.toNat, none⟩ = some (.bool v)) : Calls Tryd.prog 18 #[.pointer (some ⟨b, 0, none⟩), .int .u8 (x.toNat : Int)] w fun e w' => e = .returned (.bool v) ∧ w' = w :=
  Any.asciiSet_contains (ρ := lays228_ren) lays228 b x v w hc
/-- s of more than eight bytes. -/
theorem lia_long (s : ByteArray) (hn : NoSep s) (h8 : 8 < s.size) (hs : s.size ≤ 1048576) (t : ByteArray) (ht : Two t) (w : World) : Calls Tryd.prog 13 #[.string s, .string t] w (Miss w) := by
  have hM := make17 t ht w
  have hsz : ((s.size : Int) == 1) = false := beq_false_of_ne (by omega)
  have h8z : decide ((8 : Int) < (s.size : Int)) = true := decide_eq_true (by omega)
  have t1 := ht.size
  have t2 := ht.none
  have hsc : (storeCells ⟨w.heap.size + 1, 0, none⟩ (Lib.setCells t.data.toList).toList 0).run Tryd.prog ((w.alloc (.cells (Lib.setCells t.data.toList) 33)).alloc (.cells (Array.replicate 256 (.bool false)) 33)) = .ok () ((w.alloc (.cells (Lib.setCells t.data.toList) 33)).alloc (.cells (Lib.setCells t.data.toList) 33)) := by
    have := run_storeCells_new (P := Tryd.prog) (w.alloc (.cells (Lib.setCells t.data.toList) 33)) 33 (Array.replicate 256 (.bool false)) (Lib.setCells t.data.toList) (by rw [Lib.setCells_size]; exact info33) (by rw [Lib.setCells_size, Array.size_replicate]) (Lib.setCells_one _)
    simpa using this
  have hszc := Lib.setCells_size t.data.toList
  have hcellAt : ∀ x : UInt8, ((w.alloc (.cells (Lib.setCells t.data.toList) 33)).alloc (.cells (Lib.setCells t.data.toList) 33)).cell? ⟨w.heap.size + 1, x.toNat, none⟩ = some (.bool (t.data.toList.contains x)) := fun x => by
    rw [World.cell?_alloc_at _ _ _ _ (by simp), Lib.setCells_at]
  have HC := Lib.hid hcellAt
  clear hcellAt
  have HT := Lib.hid ht
  clear ht
  have HN := Lib.hid hn
  clear hn
  have z33 := Tryd.sizeOf33
  have v33 := zero33
  have t33 := Tryd.underlying33
  go_enter Tryd.func13, Tryd.ntmps13
  go_wp2_with fail
  refine (use16 _ _).mono ?_
  rintro e w1 ⟨rfl, hw⟩
  rw [h8z, hw]
  clear hw
  go_wp2_with fail
  refine hM.mono ?_
  rintro e w1 ⟨rfl, hw⟩
  rw [hw]
  clear hw hM
  go_wp2_with fail
  clear hsc
  go_loopw [8] (fun v8 wr => ∃ i : Nat, i ≤ s.size ∧ v8 = .int .i64 ((i : Int) - 1) ∧ wr = ((w.alloc (.cells (Lib.setCells t.data.toList) 33)).alloc (.cells (Lib.setCells t.data.toList) 33))) (fun v8 _ => (intOf v8 + 1).toNat)
  case atStart => exact ⟨s.size, Nat.le_refl _, rfl, rfl⟩
  case round =>
    obtain ⟨i, hil, rfl, rfl⟩ := hrel
    by_cases hi : 0 < i
    · have hi' : (0 : Int) ≤ (i : Int) - 1 := by omega
      have hi2 : i - 1 < s.size := by omega
      have hlt' : (i : Int) - 1 < (s.size : Int) := by omega
      obtain ⟨x, hx⟩ : ∃ x : UInt8, x = s[i - 1]'hi2 := ⟨_, rfl⟩
      have hidx : ∀ W : World, (Instr.index 9 (.string s) (.int .i64 ((i : Int) - 1))).run Tryd.prog W = .ok (.int .u8 (x.toNat : Int)) W := fun W => by
        have := index_at s (i - 1) hi2 W
        rw [show ((i - 1 : Nat) : Int) = (i : Int) - 1 by omega] at this
        rw [hx]; exact this
      have hx0 := HN.out (i - 1) hi2
      rw [← hx] at hx0
      have hcx := HC.out x
      have hfa : t.data.toList.contains x = false := by
        rw [HT.out.is]
        have h1 : x ≠ 47 := fun e => by rw [e] at hx0; exact absurd hx0 (by decide)
        have h2 : x ≠ 92 := fun e => by rw [e] at hx0; exact absurd hx0 (by decide)
        simp [h1, h2]
      rw [hfa] at hcx
      clear hx hx0 hfa
      have HX := Lib.hid hcx
      clear hcx
      go_wp2_with fail
      refine (cont18 _ x _ _ HX.out).mono ?_
      rintro e w1 ⟨rfl, rfl⟩
      go_wp2_with fail
      go_roundw
      case rel => exact ⟨i - 1, by omega, by congr 1; first | omega | (rw [IntKind.wrap_eq] <;> omega) | go_num, by first | rfl | trivial⟩
      case measure => simp [intOf]; omega
    · have hi' : ¬ (0 : Int) ≤ (i : Int) - 1 := by omega
      go_wp2_with fail
      go_ret
      exact ⟨rfl, by go_grown⟩
theorem lia13 (s : ByteArray) (hn : NoSep s) (hs : s.size ≤ 1048576) (B : Nat) (W : World) (hB : B ≤ W.heap.size) (hT : TB B W) : Calls Tryd.prog 13 #[.string s, .string sb] W (Miss W) := by
  by_cases h1 : s.size = 1
  · exact lia_one s hn h1 sb two_sb W
  by_cases h8 : s.size ≤ 8
  · exact lia_short s hn h1 h8 sb two_sb B W hB hT
  · exact lia_long s hn (by omega) hs sb two_sb W

end Go.Proofs.YtpbajadomgdajaaDoor
