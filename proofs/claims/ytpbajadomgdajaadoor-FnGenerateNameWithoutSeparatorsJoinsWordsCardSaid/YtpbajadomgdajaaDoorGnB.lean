import Derived.Test.YtpbajadomgdajaaDoorKit
import Derived.Test.YtpbajadomgdajaaDoorGnA
import Derived.Test.YtpbajadomgdajaaDoorGnD
import Derived.Laws.RangeString
import Derived.Laws.Strings3
import Derived.Shelf.Strings.Runes
import Derived.Shelf.Small.Utf8
import Derived.Deep.LoopGhost
import Derived.BigQuiet
import Derived.Laws.Runes
import Derived.WalkMore
namespace Go.Proofs.YtpbajadomgdajaaDoor
open Go.ChangeShapes Go.WideShapes Go.ChangeAt Go.RowKit
set_option linter.unusedVariables false
set_option maxRecDepth 100000
set_option maxHeartbeats 2000000

open Go.Shelf
theorem valid22 (r : Int) (w : World) : Calls Tryd.prog 22 #[.int .i32 r] w fun e w' => e = .returned (.bool (Lib.validRune r)) ∧ w' = w :=
  Any.utf8_ValidRune (ρ := lays152_ren) { lays152 with } r w
theorem ixb21 (s : ByteArray) (c : Int) (w : World) : Calls Tryd.prog 21 #[.string s, .int .u8 c] w fun e w' => e = .returned (.int .i64 (Lib.indexByte s.data.toList c.toNat.toUInt8)) ∧ w' = w :=
  Any.strings_IndexByte (ρ := lays152_ren) { lays152 with } s c w
theorem ixr_ascii (s : ByteArray) (r : Int) (w : World) (h0 : 0 ≤ r) (h1 : r < 128) : Calls Tryd.prog 15 #[.string s, .int .i32 r] w fun e w' => e = .returned (.int .i64 (Lib.indexByte s.data.toList r.toNat.toUInt8)) ∧ w' = w :=
  Any.strings_IndexRune_ascii (ρ := lays152_ren) lays152 s r w h0 h1
abbrev sb : ByteArray := ByteArray.mk #[47, 92]
theorem sb_ascii (r : Nat) (h : r < 128) (h1 : r ≠ 47) (h2 : r ≠ 92) : Lib.indexByte sb.data.toList (r : Int).toNat.toUInt8 = -1 := by
  have : ∀ n : Fin 128, n.1 ≠ 47 → n.1 ≠ 92 → Lib.indexByte [47, 92] n.1.toUInt8 = -1 := by decide
  exact this ⟨r, h⟩ h1 h2
/-- What IndexRune does for a rune that is none of the two bytes. -/
def Miss (W : World) (e : Ending) (W' : World) : Prop := e = .returned (.int .i64 (-1)) ∧ Below W.heap.size W W'
theorem ixr_low (r : Nat) (W : World) (h : r < 128) (h1 : r ≠ 47) (h2 : r ≠ 92) : Calls Tryd.prog 15 #[.string sb, .int .i32 (r : Int)] W (Miss W) := by
  refine (ixr_ascii sb r W (by omega) (by omega)).mono ?_
  rintro e w ⟨rfl, rfl⟩
  rw [sb_ascii r h h1 h2]
  exact ⟨rfl, Below.refl _ _⟩
theorem ixr_bad (r : Nat) (W : World) (h : 128 ≤ r) (h3 : r ≠ 65533) (hv : Lib.validRune (r : Int) = false) : Calls Tryd.prog 15 #[.string sb, .int .i32 (r : Int)] W (Miss W) := by
  have g1 : ¬ (r : Int) < 128 := by omega
  have g2 : ((r : Int) == 65533) = false := beq_false_of_ne (by omega)
  go_enter Tryd.func15, Tryd.ntmps15
  go_wp2_with fail
  refine (valid22 _ _).mono ?_
  rintro e w1 ⟨rfl, rfl⟩
  rw [hv]
  go_wp2
  go_ret
  exact ⟨rfl, Below.refl _ _⟩
theorem ixr_rep (W : World) : Calls Tryd.prog 15 #[.string sb, .int .i32 65533] W (Miss W) := by
  go_enter Tryd.func15, Tryd.ntmps15
  go_wp2_with fail
  go_loopg [5, 6] 2 (fun g _ _ wx => ∃ i : Nat, i + g = 2 ∧ wx = W.iter sb i)
  case atStart => exact ⟨0, rfl, rfl⟩
  case round =>
    obtain ⟨i, hig, rfl⟩ := hrel
    match gk, i, hig with
    | 2, 0, _ =>
      have hnx : ∀ ty, (Instr.next (.pointer (some ⟨W.heap.size, 0, none⟩)) true ty).run Tryd.prog (W.iter sb 0) = .ok (.tuple #[.bool true, .int .i64 0, .int .i32 47]) (W.iter sb 1) := fun ty => run_next_ascii W sb 0 ty (by decide) (by decide)
      go_wp2_with fail
      go_roundg 1
      case measure => omega
      case rel => exact ⟨1, rfl, rfl⟩
    | 1, 1, _ =>
      have hnx : ∀ ty, (Instr.next (.pointer (some ⟨W.heap.size, 0, none⟩)) true ty).run Tryd.prog (W.iter sb 1) = .ok (.tuple #[.bool true, .int .i64 1, .int .i32 92]) (W.iter sb 2) := fun ty => run_next_ascii W sb 1 ty (by decide) (by decide)
      go_wp2_with fail
      go_roundg 0
      case measure => omega
      case rel => exact ⟨2, rfl, rfl⟩
    | 0, 2, _ =>
      have hnx := fun ty => run_next_end (P := Tryd.prog) W sb 2 ty (by decide)
      go_wp2_with fail
      go_ret
      exact ⟨rfl, by show Below _ _ (W.alloc _); go_grown⟩
theorem enc_cases (r : Nat) (h : 128 ≤ r) (hv : Lib.validRune (r : Int) = true) : (∃ a b : UInt8, 128 ≤ b.toNat ∧ Utf8.encode (r : Int) = ByteArray.mk #[a, b]) ∨ (∃ a b c : UInt8, Utf8.encode (r : Int) = ByteArray.mk #[a, b, c]) ∨ (∃ a b c d : UInt8, Utf8.encode (r : Int) = ByteArray.mk #[a, b, c, d]) := by
  have hv' : (r < 55296) ∨ (57343 < r ∧ r ≤ 1114111) := by
    simp [Lib.validRune] at hv; omega
  have v : Utf8.valid (r : Int) = true := by simp [Utf8.valid]; omega
  have c1 : ¬ r < 128 := by omega
  by_cases c2 : r < 2048
  · refine .inl ⟨UInt8.ofNat (192 + r / 64), UInt8.ofNat (128 + r % 64), ?_, by simp [Utf8.encode, v, c1, c2]⟩
    simp; omega
  by_cases c3 : r < 65536
  · exact .inr (.inl ⟨UInt8.ofNat (224 + r / 4096), UInt8.ofNat (128 + r / 64 % 64), UInt8.ofNat (128 + r % 64), by simp [Utf8.encode, v, c1, c2, c3]⟩)
  · exact .inr (.inr ⟨UInt8.ofNat (240 + r / 262144), UInt8.ofNat (128 + r / 4096 % 64), UInt8.ofNat (128 + r / 64 % 64), UInt8.ofNat (128 + r % 64), by simp [Utf8.encode, v, c1, c2, c3]⟩)
theorem ixr_three (r : Nat) (W : World) (h : 128 ≤ r) (h3 : r ≠ 65533) (hv : Lib.validRune (r : Int) = true) (a b c : UInt8) (he : Utf8.encode (r : Int) = ByteArray.mk #[a, b, c]) : Calls Tryd.prog 15 #[.string sb, .int .i32 (r : Int)] W (Miss W) := by
  have g1 : ¬ (r : Int) < 128 := by omega
  have g2 : ((r : Int) == 65533) = false := beq_false_of_ne (by omega)
  go_enter Tryd.func15, Tryd.ntmps15
  go_wp2_with fail
  refine (valid22 _ _).mono ?_
  rintro e w1 ⟨rfl, hw⟩
  rw [hv, hw]
  clear hw
  go_wp2_with fail
  go_step3
  go_wp2_with fail
  go_loopw [9, 10] (fun v9 v10 wr => v9 = .int .i64 2 ∧ wr = W) (fun _ _ _ => 0)
  case atStart => exact ⟨by first | rfl | go_num, rfl⟩
  case round =>
    obtain ⟨rfl, rfl⟩ := hrel
    go_wp2_with fail
    rw [Exit.noGoto_ret]
    go_ret
    exact ⟨rfl, Below.refl _ _⟩
theorem ixr_four (r : Nat) (W : World) (h : 128 ≤ r) (h3 : r ≠ 65533) (hv : Lib.validRune (r : Int) = true) (a b c d : UInt8) (he : Utf8.encode (r : Int) = ByteArray.mk #[a, b, c, d]) : Calls Tryd.prog 15 #[.string sb, .int .i32 (r : Int)] W (Miss W) := by
  have g1 : ¬ (r : Int) < 128 := by omega
  have g2 : ((r : Int) == 65533) = false := beq_false_of_ne (by omega)
  go_enter Tryd.func15, Tryd.ntmps15
  go_wp2_with fail
  refine (valid22 _ _).mono ?_
  rintro e w1 ⟨rfl, hw⟩
  rw [hv, hw]
  clear hw
  go_wp2_with fail
  go_step3
  go_wp2_with fail
  go_loopw [9, 10] (fun v9 v10 wr => v9 = .int .i64 3 ∧ wr = W) (fun _ _ _ => 0)
  case atStart => exact ⟨by first | rfl | go_num, rfl⟩
  case round =>
    obtain ⟨rfl, rfl⟩ := hrel
    go_wp2_with fail
    rw [Exit.noGoto_ret]
    go_ret
    exact ⟨rfl, Below.refl _ _⟩
theorem ixr_two (r : Nat) (W : World) (h : 128 ≤ r) (h3 : r ≠ 65533) (hv : Lib.validRune (r : Int) = true) (a b : UInt8) (hb : 128 ≤ b.toNat) (he : Utf8.encode (r : Int) = ByteArray.mk #[a, b]) : Calls Tryd.prog 15 #[.string sb, .int .i32 (r : Int)] W (Miss W) := by
  have g1 : ¬ (r : Int) < 128 := by omega
  have g2 : ((r : Int) == 65533) = false := beq_false_of_ne (by omega)
  have i1 : ∀ w : World, (Instr.index 9 (.string sb) (.int .i64 1)).run Tryd.prog w = .ok (.int .u8 92) w := fun w => index_at sb 1 (by decide) w
  have i2 : ∀ w : World, (Instr.index 9 (.string (ByteArray.mk #[a, b])) (.int .i64 1)).run Tryd.prog w = .ok (.int .u8 (b.toNat : Int)) w := fun w => index_at (ByteArray.mk #[a, b]) 1 (Nat.lt_succ_self 1) w
  have g3 : ((92 : Int) != (b.toNat : Int)) = true := by simp; omega
  have i6 : ∀ w : World, (Instr.slice 9 (.string sb) (some (.int .i64 2)) none none).run Tryd.prog w = .ok (.string (sb.extract 2 2)) w := fun w => run_slice_string_l w 9 sb Tryd.underlying9 .i64 2 (by decide) (by decide)
  have i7 : ∀ w : World, (Instr.slice 9 (.string sb) (some (.int .i64 (IntKind.i64.wrap 2))) none none).run Tryd.prog w = .ok (.string (sb.extract 2 2)) w := i6
  have i5 : ∀ w : World, Calls Tryd.prog 21 #[.string ByteArray.empty, .int .u8 (b.toNat : Int)] w fun e w' => e = .returned (.int .i64 (-1)) ∧ w' = w := fun w => ixb21 ByteArray.empty _ w
  go_enter Tryd.func15, Tryd.ntmps15
  go_wp2_with fail
  refine (valid22 _ _).mono ?_
  rintro e w1 ⟨rfl, hw⟩
  rw [hv, hw]
  clear hw
  go_wp2_with fail
  go_step3
  go_wp2_with fail
  go_loopw [9, 10] (fun v9 v10 wr => v9 = .int .i64 1 ∧ wr = W) (fun _ _ _ => 0)
  case atStart => exact ⟨by first | rfl | go_num, rfl⟩
  case round =>
    obtain ⟨rfl, rfl⟩ := hrel
    go_wp2_with fail
    go_step3
    go_wp2_with fail
    go_quiet (fail)
    go_wp2_with fail
    go_quiet ((go_at_call 21; exact (i5 _).mono (fun e w'' hh => ⟨hh.1, _, hh.2⟩)))
    go_wp2_with fail
    rw [Exit.noGoto_ret]
    go_ret
    exact ⟨rfl, below_drewN (Below.refl _ _) _⟩
theorem ixr_none (r : Nat) (W : World) (h1 : r ≠ 47) (h2 : r ≠ 92) : Calls Tryd.prog 15 #[.string sb, .int .i32 (r : Int)] W (Miss W) := by
  by_cases h : r < 128
  · exact ixr_low r W h h1 h2
  by_cases h3 : r = 65533
  · subst h3; exact ixr_rep W
  cases hv : Lib.validRune (r : Int) with
  | false => exact ixr_bad r W (by omega) h3 hv
  | true =>
    rcases enc_cases r (by omega) hv with ⟨a, b, hb, he⟩ | ⟨a, b, c, he⟩ | ⟨a, b, c, d, he⟩
    · exact ixr_two r W (by omega) h3 hv a b hb he
    · exact ixr_three r W (by omega) h3 hv a b c he
    · exact ixr_four r W (by omega) h3 hv a b c d he

end Go.Proofs.YtpbajadomgdajaaDoor
