import Derived.Test.YtdikaidllmhbhabKit
import Derived.Test.YtdikaidllmhbhabSnE
import Derived.Test.YtdikaidllmhbhabRec
namespace Go.Proofs.Ytdikaidllmhbhab.fnStoreNameScriptRoundTrip
open Go.ChangeShapes Go.WideShapes Go.ChangeAt Go.RowKit
set_option linter.unusedVariables false
set_option maxRecDepth 100000
set_option maxHeartbeats 2000000

def SF9 (nm : ByteArray) (s : Nat) (w : World) (e : Ending) (w' : World) : Prop := e = .returned (.agg #[.int .u32 (4294967296 - (nm.size : Int)), .int .u32 s]) ∧ Below w.heap.size w w'
theorem store9 (pv : Value) (nm : ByteArray) (s : Nat) (w : World) (h1 : 1 ≤ nm.size) (h2 : nm.size ≤ 1048576) (hs : s ≤ 1048576) : Calls Try.prog 9 #[pv, .string nm, .int .u32 s] w (SF9 nm s w) := by
  have H15 := Lib.hid (fun W => make15 s hs W)
  have H14 := Lib.hid (fun W => store14F pv nm s W h1 h2 hs)
  have hw : (4294967296 - (nm.size : Int)) = 4294967296 - (nm.size : Int) := rfl
  go_enter Try.func9, Try.ntmps9
  go_wp2_with fail
  refine (H15.out _).mono ?_
  rintro e w1 ⟨rfl, hb1⟩
  have HB1 := Lib.hid hb1
  clear hb1
  go_wp2_with fail
  refine (H14.out _).mono ?_
  rintro e w2 ⟨rfl, hb2⟩
  have R0 : RowAt (w.alloc (.cells #[.int .u32 0, .int .u32 0] 35)) w.heap.size #[.int .u32 0, .int .u32 0] 35 := RowAt.new _ _ _
  have R1 := R0.below HB1.out R0.lt
  have R2 := R1.below hb2 R1.lt
  have d0 := R2.cellv (j := 0) (v := .int .u32 0) rfl
  have d1 := R2.cellv (j := 1) (v := .int .u32 0) rfl
  have fd := R2.frozen
  have HR2 := Lib.hid R2
  have HBZ : Hid (Below w.heap.size w w2) := Below.trans (Below.trans ((Below.refl _ _).alloc (Nat.le_refl _) _) (HB1.out.mono (by simp))) (hb2.mono (by have := HB1.out.size; simp at this; omega))
  clear R0 R1 R2 hb2 HB1
  go_wp2_with fail
  have q0 := ((HR2.out.set 0 (.int .u32 (4294967296 - (nm.size : Int)))).set 1 (.int .u32 s)).cellv (j := 0) (v := .int .u32 (4294967296 - (nm.size : Int))) rfl
  have q1 := ((HR2.out.set 0 (.int .u32 (4294967296 - (nm.size : Int)))).set 1 (.int .u32 s)).cellv (j := 1) (v := .int .u32 s) rfl
  exact bodyPost_ret (v := .agg #[.int .u32 (4294967296 - (nm.size : Int)), .int .u32 s]) (by simp [results, Try.results9, go_sem, q0, q1]) rfl ⟨rfl, (HBZ.out.setCell (Nat.le_refl _) _).setCell (Nat.le_refl _) _⟩
theorem store10 (B p : Nat) (ct nm : ByteArray) (L : List ByteArray) (w : World) (hB : B ≤ w.heap.size) (hL : L.length ≤ 1048576) (h : PN w B p ct L) : Calls Try.prog 10 #[.pointer (some ⟨p, 0, none⟩), .string nm] w (SA B p ct nm L w) := by
  have hb0 : Below w.heap.size w (w.alloc (.cells #[.int .u32 0, .int .u32 0] 35)) := (Below.refl _ _).alloc (Nat.le_refl _) _
  have H14 := Lib.hid (store14A B p ct nm L (w.alloc (.cells #[.int .u32 0, .int .u32 0] 35)) (by simp; omega) hL (h.below hb0))
  have hpr : ∃ cs, RowAt w p cs 163 := by
    obtain ⟨cs, V, h1, _⟩ := h
    exact ⟨cs, h1⟩
  have HPR := Lib.hid hpr
  clear h hb0 hpr
  go_enter Try.func10, Try.ntmps10
  go_wp2_with fail
  refine H14.out.mono ?_
  clear H14
  rintro e w2 ⟨rfl, hpn, hfr, hkp⟩
  have R2 := hkp _ _ _ (RowAt.new w #[.int .u32 0, .int .u32 0] 35) (by decide) (by decide)
  have d0 := R2.cellv (j := 0) (v := .int .u32 0) rfl
  have d1 := R2.cellv (j := 1) (v := .int .u32 0) rfl
  have fd := R2.frozen
  have HR2 := Lib.hid R2
  have HPN := Lib.hid hpn
  have HFR := Lib.hid hfr
  have HKP := Lib.hid hkp
  clear R2 hpn hfr hkp
  go_wp2_with fail
  have q0 := ((HR2.out.set 0 (.int .u32 2147483648)).set 1 (.int .u32 L.length)).cellv (j := 0) (v := .int .u32 2147483648) rfl
  have q1 := ((HR2.out.set 0 (.int .u32 2147483648)).set 1 (.int .u32 L.length)).cellv (j := 1) (v := .int .u32 L.length) rfl
  refine bodyPost_ret (v := .agg #[.int .u32 2147483648, .int .u32 L.length]) (by simp [results, Try.results10, go_sem, q0, q1]) rfl ⟨rfl, ?_, ?_, fun b es t hr h9 h163 => ?_⟩
  · obtain ⟨cs', V', k1, k2, k3, k4⟩ := HPN.out
    refine ⟨cs', V', (k1.set_other (row_ne k1 HR2.out (by decide)) _ _).set_other (row_ne k1 HR2.out (by decide)) _ _, k2, k3, own_kept k4 fun b hb => ?_⟩
    obtain ⟨⟨es, h1⟩, _⟩ := own_row k4 hb
    have hne := row_ne h1 HR2.out (by decide)
    rw [heap_set hne, heap_set hne]
  · have f1 := (Frp.of_below (B := B) (p := p) ((Below.refl w.heap.size w).alloc (Nat.le_refl _) (.cells #[.int .u32 0, .int .u32 0] 35)) hB).trans HFR.out
    exact ⟨f1.os, f1.tape, f1.output, by simpa using f1.size, fun j hj hp => by
      have hne : j ≠ w.heap.size := by omega
      rw [heap_set hne, heap_set hne]
      exact f1.block j hj hp⟩
  · have hne : b ≠ w.heap.size := by have := hr.lt; omega
    exact ((HKP.out b es t (hr.alloc _) h9 h163).set_other hne _ _).set_other hne _ _
theorem load16A (B p m : Nat) (ct nm : ByteArray) (L : List ByteArray) (w : World) (hm : L[m]? = some nm) (hL : L.length ≤ 1048576) (h : PN w B p ct L) : Calls Try.prog 16 #[.pointer (some ⟨p, 0, none⟩), .agg #[.int .u32 2147483648, .int .u32 m]] w fun e w' => e = .returned (.string nm) ∧ Below w.heap.size w w' := by
  obtain ⟨cs, V, rp, c60, c103', ho⟩ := h
  have hlt : m < L.length := (List.getElem?_eq_some_iff.1 hm).1
  obtain ⟨g, cap, rfl, hc⟩ : ∃ g cap, V = .slice (some ⟨g, 0, none⟩) L.length cap ∧ w.cell? ⟨g, m, none⟩ = some (.string nm) := by
    rcases ho.2 with ⟨_, hx⟩ | ⟨g, cap, cur, hv, _, hh, _, _, _, h4⟩
    · omega
    · refine ⟨g, cap, hv, ?_⟩
      rw [cell_of_row w g m cur 9 (0, 0) hh]
      have : (cur.toList.take (L.length * 1))[m]? = (L.map Value.string)[m]? := congrArg (fun l => l[m]?) h4
      rw [List.getElem?_take_of_lt (by omega), List.getElem?_map, hm, Array.getElem?_toList] at this
      exact this
  have c103 := rp.cellv c103'
  have zp := rp.lt
  have zg : g < w.heap.size := cell_lt hc
  clear rp c60 c103' ho hm
  go_enter Try.func16, Try.ntmps16
  go_wp2_with fail
  go_quiet (fail)
  go_wp2_with fail
  go_ret
  exact ⟨rfl, below_drewN (by go_grown) _⟩
theorem load16F (B p n s : Nat) (ct : ByteArray) (L : List ByteArray) (w : World) (h1 : 1 ≤ n) (h2 : n ≤ 1048576) (hs : s + n ≤ ct.size) (hc : ct.size ≤ 1048576) (h : PN w B p ct L) : Calls Try.prog 16 #[.pointer (some ⟨p, 0, none⟩), .agg #[.int .u32 (4294967296 - (n : Int)), .int .u32 s]] w fun e w' => e = .returned (.string (ct.extract s (s + n))) ∧ Below w.heap.size w w' := by
  obtain ⟨cs, V, rp, c60', c103', ho⟩ := h
  have c60 := rp.cellv c60'
  have zp := rp.lt
  have ht := top_bit (4294967296 - n) (by omega) (by omega)
  rw [show (((4294967296 - n : Nat)) : Int) = 4294967296 - (n : Int) by omega] at ht
  have hne : ¬ (4294967296 - (n : Int)) = 2147483648 := by omega
  have hne2 : ((4294967296 - (n : Int)) == 2147483648) = false := by simpa using hne
  have ht2 : (bits BinOp.and IntKind.u32 (4294967296 - (n : Int)) 2147483648 == 0) = false := by simpa using ht
  have e1 : IntKind.i32.wrap (s : Int) = s := by
    simp only [IntKind.wrap, IntKind.bits, IntKind.signed]
    simp
    omega
  have e2 : IntKind.i32.wrap (4294967296 - (n : Int)) = -(n : Int) := by
    simp only [IntKind.wrap, IntKind.bits, IntKind.signed]
    simp
    omega
  have e3 : IntKind.i32.wrap ((s : Int) + n) = (s : Int) + n := by
    simp only [IntKind.wrap, IntKind.bits, IntKind.signed]
    simp
    omega
  have e4 : IntKind.i32.wrap ((s : Int) - -(n : Int)) = (s : Int) + n := by rw [Int.sub_neg, e3]
  have hsl : ∀ W, (Instr.slice 9 (.string ct) (some (.int .u32 s)) (some (.int .i32 ((s : Int) + n))) none).run Try.prog W = .ok (.string (ct.extract s (s + n))) W := fun W => by
    have := run_slice_string W 9 ct .u32 .i32 (s : Int) ((s : Int) + n) Try.underlying9 (by omega) (by omega) (by omega)
    rw [show ((s : Int) + n).toNat = s + n by omega, Int.toNat_natCast] at this
    exact this
  clear rp c60' c103' ho
  go_enter Try.func16, Try.ntmps16
  go_wp2_with fail
  go_quiet (fail)
  go_wp2_with fail
  go_ret
  exact ⟨rfl, below_drewN (by go_grown) _⟩
theorem load11 (pv : Value) (r0 r1 : Int) (nm : ByteArray) (w : World) (h : ∀ W, Below w.heap.size w W → Calls Try.prog 16 #[pv, .agg #[.int .u32 r0, .int .u32 r1]] W fun e w' => e = .returned (.string nm) ∧ Below W.heap.size W w') :
    Calls Try.prog 11 #[pv, .agg #[.int .u32 r0, .int .u32 r1]] w fun e w' => e = .returned (.string nm) ∧ Below w.heap.size w w' := by
  have H := Lib.hid (h (w.alloc (.cells #[.int .u32 r0, .int .u32 r1] 35)) ((Below.refl _ _).alloc (Nat.le_refl _) _))
  clear h
  go_enter Try.func11, Try.ntmps11
  go_wp2_with fail
  refine H.out.mono ?_
  clear H
  rintro e w2 ⟨rfl, hb⟩
  have HB := Lib.hid hb
  clear hb
  go_wp2_with fail
  go_ret
  exact ⟨rfl, Below.trans ((Below.refl _ _).alloc (Nat.le_refl _) _) (HB.out.mono (by simp))⟩

end Go.Proofs.Ytdikaidllmhbhab.fnStoreNameScriptRoundTrip
