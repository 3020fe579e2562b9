import Derived.Test.YtkncfhhiookgdabGreatFmtKit
import Derived.Test.YtkncfhhiookgdabGreatFmtIuG
import Derived.Lib.OthersKept
import Derived.Lib.LastIndexByte
import Derived.Lib.Bytealg
import Derived.Lib.DecodeN
import Derived.Lib.TrimUEq
import Derived.Laws.RangeAny
import Derived.Laws.Strings3
import Derived.Laws.Bits64b
namespace Go.Proofs.YtkncfhhiookgdabGreatFmt
open Go.ChangeShapes Go.WideShapes Go.ChangeAt Go.RowKit
set_option linter.unusedVariables false
set_option maxRecDepth 100000
set_option maxHeartbeats 2000000

open Go.Extern
/-- A string's byte. -/
def bt (s : ByteArray) (i : Nat) : Nat := (s.data[i]!).toNat
theorem bt_at (s : ByteArray) (i : Nat) (h : i < s.size) : bt s i = (s[i]'h).toNat := by
  have h' : i < s.data.size := h
  unfold bt
  rw [getElem!_pos s.data i h']
  rfl
theorem index_bt (s : ByteArray) (i : Nat) (h : i < s.size) : ∀ W : World, (Instr.index 9 (.string s) (.int .i64 (i : Int))).run Tryz.prog W = .ok (.int .u8 ((bt s i : Nat) : Int)) W := fun W => by
  rw [run_index_string W 9 s .i64 i Tryz.underlying9, dif_pos ⟨by omega, by omega⟩, bt_at s i h]
  simp
theorem bt_lt (s : ByteArray) (i : Nat) : bt s i < 256 := UInt8.toNat_lt _
theorem has28 (f m : Int) (W : World) : Calls Tryz.prog 28 #[.int .u64 f, .int .u64 m] W fun e W' => e = .returned (.bool (bits .and .u64 f m != 0)) ∧ W = W' := by
  go_enter Tryz.func28, Tryz.ntmps28
  go_wp2
  go_ret
  exact ⟨rfl, rfl⟩
theorem zz12 (W : World) : Calls Tryz.prog 12 #[] W fun e W' => e = .returned (.int .u64 562949953421312) ∧ W = W' := by
  go_enter Tryz.func12, Tryz.ntmps12
  go_wp2
  go_ret
  exact ⟨rfl, rfl⟩
theorem zz13 (W : World) : Calls Tryz.prog 13 #[] W fun e W' => e = .returned (.int .u64 2251799813685248) ∧ W = W' := by
  go_enter Tryz.func13, Tryz.ntmps13
  go_wp2
  go_ret
  exact ⟨rfl, rfl⟩
theorem zz14 (W : World) : Calls Tryz.prog 14 #[] W fun e W' => e = .returned (.int .u64 18014398509481984) ∧ W = W' := by
  go_enter Tryz.func14, Tryz.ntmps14
  go_wp2
  go_ret
  exact ⟨rfl, rfl⟩
theorem zz33 (W : World) : Calls Tryz.prog 33 #[] W fun e W' => e = .returned (.int .u64 281474976710656) ∧ W = W' := by
  go_enter Tryz.func33, Tryz.ntmps33
  go_wp2
  go_ret
  exact ⟨rfl, rfl⟩
theorem zz34 (W : World) : Calls Tryz.prog 34 #[] W fun e W' => e = .returned (.int .u64 9007199254740992) ∧ W = W' := by
  go_enter Tryz.func34, Tryz.ntmps34
  go_wp2
  go_ret
  exact ⟨rfl, rfl⟩
theorem zz35 (W : World) : Calls Tryz.prog 35 #[] W fun e W' => e = .returned (.int .u64 1125899906842624) ∧ W = W' := by
  go_enter Tryz.func35, Tryz.ntmps35
  go_wp2
  go_ret
  exact ⟨rfl, rfl⟩
theorem zz36 (W : World) : Calls Tryz.prog 36 #[] W fun e W' => e = .returned (.int .u64 4503599627370496) ∧ W = W' := by
  go_enter Tryz.func36, Tryz.ntmps36
  go_wp2
  go_ret
  exact ⟨rfl, rfl⟩
theorem zz6 (W : World) : Calls Tryz.prog 6 #[] W fun e W' => e = .returned (.int .u64 20829148276588544) ∧ W = W' := by
  go_enter Tryz.func6, Tryz.ntmps6
  go_wp2_with fail
  refine (zz12 _).mono ?_
  rintro e w1 ⟨rfl, rfl⟩
  go_wp2_with fail
  refine (zz13 _).mono ?_
  rintro e w1 ⟨rfl, rfl⟩
  go_wp2_with fail
  refine (zz14 _).mono ?_
  rintro e w1 ⟨rfl, rfl⟩
  go_wp2_with fail
  go_ret
  exact ⟨by rfl, rfl⟩
theorem and_part (n M m : Nat) (h : n &&& M = 0) (hm : M &&& m = m) : n &&& m = 0 := by
  rw [← hm, ← Nat.and_assoc, h, Nat.zero_and]
theorem feat (f : Int) (h0 : 0 ≤ f) (h1 : f ≤ 18446744073709551615) (h : bits .and .u64 f 20829148276588544 = 0) :
    bits .and .u64 f 562949953421312 = 0 ∧ bits .and .u64 f 2251799813685248 = 0 ∧ bits .and .u64 f 18014398509481984 = 0 := by
  obtain ⟨n, rfl⟩ : ∃ n : Nat, f = n := ⟨f.toNat, by omega⟩
  have q : ∀ m : Nat, m < 18446744073709551616 → bits .and .u64 (n : Int) (m : Int) = ((n &&& m : Nat) : Int) := fun m hm => bits_and_u64_nat n m (by omega) hm
  have h' : n &&& 20829148276588544 = 0 := by
    have := q 20829148276588544 (by omega)
    rw [show ((20829148276588544 : Nat) : Int) = 20829148276588544 from rfl, h] at this
    omega
  refine ⟨?_, ?_, ?_⟩
  · have := q 562949953421312 (by omega)
    rw [and_part n _ 562949953421312 h' (by rfl)] at this
    exact this
  · have := q 2251799813685248 (by omega)
    rw [and_part n _ 2251799813685248 h' (by rfl)] at this
    exact this
  · have := q 18014398509481984 (by omega)
    rw [and_part n _ 18014398509481984 h' (by rfl)] at this
    exact this
theorem last5 (s : ByteArray) (hs : s.size ≤ 1048576) (W : World) : Calls Tryz.prog 5 #[.string s] W fun e W' => e = .returned (.int .i64 (Lib.lastIndexByte s 47)) ∧ W = W' := by
  go_enter Tryz.func5, Tryz.ntmps5
  go_wp2_with fail
  go_loopw [3] (fun v3 wr => ∃ k : Nat, k ≤ s.size ∧ v3 = .int .i64 ((k : Int) - 1) ∧ Hid (Lib.lastIndexByte s 47 = Lib.lastIdx s 47 k) ∧ wr = W) (fun v3 _ => (intOf v3 + 1).toNat)
  case atStart => exact ⟨s.size, Nat.le_refl _, rfl, Lib.hid rfl, rfl⟩
  case round =>
    obtain ⟨k, hk, rfl, HK, rfl⟩ := hrel
    by_cases hk0 : k = 0
    · subst hk0
      go_wp2_with fail
      go_ret
      exact ⟨by rw [HK.out]; rfl, rfl⟩
    · obtain ⟨j, rfl⟩ : ∃ j, k = j + 1 := ⟨k - 1, by omega⟩
      clear hk0
      have hlt : j < s.size := by omega
      have hidx := index_bt s j hlt
      obtain ⟨c, hc⟩ : ∃ c : Nat, c = bt s j := ⟨_, rfl⟩
      rw [← hc] at hidx
      have e1 : (((j + 1 : Nat) : Int) - 1) = (j : Int) := by omega
      rw [e1]
      by_cases h47 : c = 47
      · subst h47
        have HL := Lib.hid (HK.out.trans (Lib.lastIdx_hit s 47 j (by show ((bt s j : Nat) : Int) = 47; rw [← hc]; rfl)))
        clear hc
        go_wp2_with fail
        go_ret
        exact ⟨by rw [HL.out]; rfl, rfl⟩
      · have HL := Lib.hid (HK.out.trans (Lib.lastIdx_miss s 47 j (by show ((bt s j : Nat) : Int) ≠ 47; rw [← hc]; omega)))
        have hc1 : ((c : Int) == 47) = false := beq_false_of_ne (by omega)
        have hc2 : ¬ (c : Int) = 47 := by omega
        clear hc HK
        go_wp2_with fail
        go_roundw
        case rel => exact ⟨j, by omega, by go_num, HL, by first | rfl | trivial⟩
        case measure => simp [intOf] <;> omega
theorem last40 (s : ByteArray) (hs : s.size ≤ 1048576) (W : World) : Calls Tryz.prog 40 #[.string s, .int .u8 47] W fun e W' => e = .returned (.int .i64 (Lib.lastIndexByte s 47)) ∧ W = W' := by
  go_enter Tryz.func40, Tryz.ntmps40
  go_wp2_with fail
  go_loopw [5] (fun v3 wr => ∃ k : Nat, k ≤ s.size ∧ v3 = .int .i64 ((k : Int) - 1) ∧ Hid (Lib.lastIndexByte s 47 = Lib.lastIdx s 47 k) ∧ wr = W) (fun v3 _ => (intOf v3 + 1).toNat)
  case atStart => exact ⟨s.size, Nat.le_refl _, rfl, Lib.hid rfl, rfl⟩
  case round =>
    obtain ⟨k, hk, rfl, HK, rfl⟩ := hrel
    by_cases hk0 : k = 0
    · subst hk0
      go_wp2_with fail
      go_ret
      exact ⟨by rw [HK.out]; rfl, rfl⟩
    · obtain ⟨j, rfl⟩ : ∃ j, k = j + 1 := ⟨k - 1, by omega⟩
      clear hk0
      have hlt : j < s.size := by omega
      have hidx := index_bt s j hlt
      obtain ⟨c, hc⟩ : ∃ c : Nat, c = bt s j := ⟨_, rfl⟩
      rw [← hc] at hidx
      have e1 : (((j + 1 : Nat) : Int) - 1) = (j : Int) := by omega
      rw [e1]
      by_cases h47 : c = 47
      · subst h47
        have HL := Lib.hid (HK.out.trans (Lib.lastIdx_hit s 47 j (by show ((bt s j : Nat) : Int) = 47; rw [← hc]; rfl)))
        clear hc
        go_wp2_with fail
        go_ret
        exact ⟨by rw [HL.out]; rfl, rfl⟩
      · have HL := Lib.hid (HK.out.trans (Lib.lastIdx_miss s 47 j (by show ((bt s j : Nat) : Int) ≠ 47; rw [← hc]; omega)))
        have hc1 : ((c : Int) == 47) = false := beq_false_of_ne (by omega)
        have hc2 : ¬ (c : Int) = 47 := by omega
        clear hc HK
        go_wp2_with fail
        go_roundw
        case rel => exact ⟨j, by omega, by go_num, HL, by first | rfl | trivial⟩
        case measure => simp [intOf] <;> omega
theorem last25 (s : ByteArray) (hs : s.size ≤ 1048576) (W : World) : Calls Tryz.prog 25 #[.string s, .int .u8 47] W fun e W' => e = .returned (.int .i64 (Lib.lastIndexByte s 47)) ∧ W = W' := by
  go_enter Tryz.func25, Tryz.ntmps25
  go_wp2_with fail
  refine (last40 s hs _).mono ?_
  rintro e w1 ⟨rfl, rfl⟩
  go_wp2_with fail
  go_ret
  exact ⟨rfl, rfl⟩
def SomeI (W : World) (e : Ending) (W' : World) : Prop := ∃ z : Int, e = .returned (.int .i64 z) ∧ W = W'
def SomeB (W : World) (e : Ending) (W' : World) : Prop := ∃ b : Bool, e = .returned (.bool b) ∧ W = W'
@[go_sem] theorem call55 (s : ByteArray) (c : Int) (w : World) : (callFunc 55 #[.string s, .int .u8 c]).run Tryz.prog w = .ok (.value (.int .i64 (Lib.indexByte s.data.toList c.toNat.toUInt8))) w := by
  rw [run_callFunc_extern Tryz.func55 (by kernel_rfl) (by kernel_rfl) (by kernel_rfl) (e := Extern.BytealgIndexByte.indexByte) (by kernel_rfl), Lib.run_indexByteString]
  rfl
theorem idx41 (s : ByteArray) (c : Int) (W : World) : Calls Tryz.prog 41 #[.string s, .int .u8 c] W (SomeI W) := by
  go_enter Tryz.func41, Tryz.ntmps41
  go_wp2_with fail
  go_ret
  exact ⟨_, rfl, rfl⟩
theorem idx26 (s : ByteArray) (c : Int) (W : World) : Calls Tryz.prog 26 #[.string s, .int .u8 c] W (SomeI W) := by
  go_enter Tryz.func26, Tryz.ntmps26
  go_wp2_with fail
  refine (idx41 s c _).mono ?_
  rintro e w1 ⟨z, rfl, rfl⟩
  go_wp2_with fail
  go_ret
  exact ⟨z, rfl, rfl⟩
theorem pref42 (s t : ByteArray) (W : World) : Calls Tryz.prog 42 #[.string s, .string t] W (SomeB W) := by
  by_cases h : (t.size : Int) ≤ s.size
  · go_enter Tryz.func42, Tryz.ntmps42
    go_wp2_with fail
    go_ret
    exact ⟨_, rfl, rfl⟩
  · go_enter Tryz.func42, Tryz.ntmps42
    go_wp2_with fail
    go_ret
    exact ⟨_, rfl, rfl⟩
theorem pref27 (s t : ByteArray) (W : World) : Calls Tryz.prog 27 #[.string s, .string t] W (SomeB W) := by
  go_enter Tryz.func27, Tryz.ntmps27
  go_wp2_with fail
  refine (pref42 s t _).mono ?_
  rintro e w1 ⟨b, rfl, rfl⟩
  go_wp2_with fail
  go_ret
  exact ⟨b, rfl, rfl⟩
theorem hasb10 (s : ByteArray) (hs : s.size ≤ 1048576) (k : Nat) (hk : k < s.size) (hb : bt s k = 41) (W : World) : Calls Tryz.prog 10 #[.string s, .int .u8 41] W fun e W' => e = .returned (.bool true) ∧ W = W' := by
  have HB := Lib.hid hb
  clear hb
  go_enter Tryz.func10, Tryz.ntmps10
  go_wp2_with fail
  go_loopw [5] (fun v5 wr => ∃ j : Nat, j ≤ k ∧ v5 = .int .i64 j ∧ wr = W) (fun v5 _ => s.size - (intOf v5).toNat)
  case atStart => exact ⟨0, by omega, rfl, rfl⟩
  case round =>
    obtain ⟨j, hj, rfl, rfl⟩ := hrel
    have hlt : j < s.size := by omega
    have hidx := index_bt s j hlt
    obtain ⟨c, hc⟩ : ∃ c : Nat, c = bt s j := ⟨_, rfl⟩
    rw [← hc] at hidx
    by_cases h41 : c = 41
    · subst h41
      go_wp2_with fail
      go_ret
      exact ⟨rfl, rfl⟩
    · have hc1 : ((c : Int) == 41) = false := beq_false_of_ne (by omega)
      have hc2 : ¬ (c : Int) = 41 := by omega
      have hjk : j ≠ k := by
        intro e
        subst e
        exact h41 (hc.trans HB.out)
      clear hc
      go_wp2_with fail
      go_roundw
      case rel => exact ⟨j + 1, by omega, by go_num, by first | rfl | trivial⟩
      case measure => simp [intOf]; omega
/-- Whether a flag is allowed. -/
def fa (c : Nat) (f : Int) : Bool := if c = 103 ∨ c = 105 ∨ c = 109 then true else if c = 115 then bits .and .u64 f 281474976710656 == 0 else if c = 121 ∨ c = 117 then bits .and .u64 f 9007199254740992 == 0 else if c = 100 then bits .and .u64 f 1125899906842624 == 0 else if c = 118 then bits .and .u64 f 4503599627370496 == 0 else false
theorem fa_high (c : Nat) (f : Int) (h : 128 ≤ c) : fa c f = false := by
  unfold fa
  rw [if_neg (by omega), if_neg (by omega), if_neg (by omega), if_neg (by omega), if_neg (by omega)]
theorem fa17 (c : Nat) (f : Int) (W : World) : Calls Tryz.prog 17 #[.int .u8 c, .int .u64 f] W fun e W' => e = .returned (.bool (fa c f)) ∧ W = W' := by
  by_cases h103 : c = 103
  · subst h103
    go_enter Tryz.func17, Tryz.ntmps17
    go_wp2_with fail
    go_ret
    exact ⟨by rfl, rfl⟩
  by_cases h105 : c = 105
  · subst h105
    go_enter Tryz.func17, Tryz.ntmps17
    go_wp2_with fail
    go_ret
    exact ⟨by rfl, rfl⟩
  by_cases h109 : c = 109
  · subst h109
    go_enter Tryz.func17, Tryz.ntmps17
    go_wp2_with fail
    go_ret
    exact ⟨by rfl, rfl⟩
  by_cases h115 : c = 115
  · subst h115
    go_enter Tryz.func17, Tryz.ntmps17
    go_wp2_with fail
    refine (zz33 _).mono ?_
    rintro e w1 ⟨rfl, rfl⟩
    go_wp2_with fail
    go_ret
    exact ⟨by rfl, rfl⟩
  by_cases h121 : c = 121
  · subst h121
    go_enter Tryz.func17, Tryz.ntmps17
    go_wp2_with fail
    refine (zz34 _).mono ?_
    rintro e w1 ⟨rfl, rfl⟩
    go_wp2_with fail
    go_ret
    exact ⟨by rfl, rfl⟩
  by_cases h117 : c = 117
  · subst h117
    go_enter Tryz.func17, Tryz.ntmps17
    go_wp2_with fail
    refine (zz34 _).mono ?_
    rintro e w1 ⟨rfl, rfl⟩
    go_wp2_with fail
    go_ret
    exact ⟨by rfl, rfl⟩
  by_cases h100 : c = 100
  · subst h100
    go_enter Tryz.func17, Tryz.ntmps17
    go_wp2_with fail
    refine (zz35 _).mono ?_
    rintro e w1 ⟨rfl, rfl⟩
    go_wp2_with fail
    go_ret
    exact ⟨by rfl, rfl⟩
  by_cases h118 : c = 118
  · subst h118
    go_enter Tryz.func17, Tryz.ntmps17
    go_wp2_with fail
    refine (zz36 _).mono ?_
    rintro e w1 ⟨rfl, rfl⟩
    go_wp2_with fail
    go_ret
    exact ⟨by rfl, rfl⟩
  have b103 : ((c : Int) == 103) = false := beq_false_of_ne (by omega)
  have g103 : ¬ (c : Int) = 103 := by omega
  have b105 : ((c : Int) == 105) = false := beq_false_of_ne (by omega)
  have g105 : ¬ (c : Int) = 105 := by omega
  have b109 : ((c : Int) == 109) = false := beq_false_of_ne (by omega)
  have g109 : ¬ (c : Int) = 109 := by omega
  have b115 : ((c : Int) == 115) = false := beq_false_of_ne (by omega)
  have g115 : ¬ (c : Int) = 115 := by omega
  have b121 : ((c : Int) == 121) = false := beq_false_of_ne (by omega)
  have g121 : ¬ (c : Int) = 121 := by omega
  have b117 : ((c : Int) == 117) = false := beq_false_of_ne (by omega)
  have g117 : ¬ (c : Int) = 117 := by omega
  have b100 : ((c : Int) == 100) = false := beq_false_of_ne (by omega)
  have g100 : ¬ (c : Int) = 100 := by omega
  have b118 : ((c : Int) == 118) = false := beq_false_of_ne (by omega)
  have g118 : ¬ (c : Int) = 118 := by omega
  go_enter Tryz.func17, Tryz.ntmps17
  go_wp2_with fail
  go_ret
  exact ⟨by simp [fa, h103, h105, h109, h115, h121, h117, h100, h118], rfl⟩
/-- What the flags' reading answers. -/
def FR (s : ByteArray) (f : Int) (b : Bool) : Prop := (b = true ∧ ∃ i, i < s.size ∧ fa (bt s i) f = false) ∨ (b = false ∧ ∀ i, i < s.size → fa (bt s i) f = true)
theorem FR.one {s : ByteArray} {f : Int} {a b : Bool} (h : FR s f a) (g : FR s f b) : a = b := by
  rcases h with ⟨rfl, i, h1, h2⟩ | ⟨rfl, h1⟩ <;> rcases g with ⟨rfl, j, g1, g2⟩ | ⟨rfl, g1⟩
  · rfl
  · rw [g1 i h1] at h2; cases h2
  · rw [h1 j g1] at g2; cases g2
  · rfl
def FRIs (s : ByteArray) (f : Int) (W : World) (e : Ending) (W' : World) : Prop := ∃ b, e = .returned (.bool b) ∧ FR s f b ∧ W = W'
theorem ref11 (s : ByteArray) (hs : s.size ≤ 1048576) (f : Int) (W : World) : Calls Tryz.prog 11 #[.string s, .int .u64 f] W (FRIs s f W) := by
  go_enter Tryz.func11, Tryz.ntmps11
  go_wp2_with fail
  go_loopw [5] (fun v5 wr => ∃ j : Nat, j ≤ s.size ∧ v5 = .int .i64 j ∧ (∀ i, i < j → fa (bt s i) f = true) ∧ wr = W) (fun v5 _ => s.size - (intOf v5).toNat)
  case atStart => exact ⟨0, by omega, rfl, fun i hi => by omega, rfl⟩
  case round =>
    obtain ⟨j, hj, rfl, hall, rfl⟩ := hrel
    have HA := Lib.hid hall
    clear hall
    by_cases hlt : j < s.size
    · have hlt' : (j : Int) < (s.size : Int) := by omega
      have hidx := index_bt s j hlt
      go_wp2_with fail
      refine (fa17 (bt s j) f _).mono ?_
      rintro e w1 ⟨rfl, rfl⟩
      cases hfa : fa (bt s j) f with
      | false =>
        go_wp2_with fail
        go_ret
        exact ⟨true, rfl, .inl ⟨rfl, j, hlt, hfa⟩, rfl⟩
      | true =>
        have HF := Lib.hid hfa
        clear hfa
        go_wp2_with fail
        go_roundw
        case rel => exact ⟨j + 1, by omega, by go_num, fun i hi => by
          by_cases e : i = j
          · subst e; exact HF.out
          · exact HA.out i (by omega), by first | rfl | trivial⟩
        case measure => simp [intOf]; omega
    · obtain rfl : s.size = j := by omega
      go_wp2_with fail
      go_ret
      exact ⟨false, rfl, .inr ⟨rfl, HA.out⟩, rfl⟩
theorem quiet1 {P : Program} {f : FuncId} {args : Array Value} {w : World} {n : Nat} {v : Value} (h : ∀ W, Calls P f args W fun e w' => e = .returned v ∧ W = w') : Calls P f args (w.drewN n) fun e w'' => e = .returned v ∧ ∃ m, w'' = w.drewN m := (h _).mono fun _ _ ⟨he, hm⟩ => ⟨he, n, hm.symm⟩

end Go.Proofs.YtkncfhhiookgdabGreatFmt
