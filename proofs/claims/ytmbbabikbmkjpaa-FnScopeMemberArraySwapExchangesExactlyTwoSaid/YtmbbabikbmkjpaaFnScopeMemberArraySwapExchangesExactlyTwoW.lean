import Derived.Test.YtmbbabikbmkjpaaKit
import Derived.Test.YtmbbabikbmkjpaaSwB
namespace Go.Proofs.Ytmbbabikbmkjpaa.fnScopeMemberArraySwapExchangesExactlyTwo
open Go.ChangeShapes Go.WideShapes Go.ChangeAt Go.RowKit
set_option linter.unusedVariables false
set_option maxRecDepth 100000
set_option maxHeartbeats 2000000

def SomeB (w : World) (e : Ending) (w' : World) : Prop := ∃ b, e = .returned (.bool b) ∧ w = w'

theorem zb6any (a0 a1 a2 : Option Addr) (n0 n1 n2 c0 c1 c2 : Nat) (i j : Int) (w : World) (h0 : n0 ≤ 9223372036854775807) (h1 : n1 ≤ 9223372036854775807) (h2 : n2 ≤ 9223372036854775807) :
    Calls Try.prog 6 #[.slice a0 n0 c0, .slice a1 n1 c1, .slice a2 n2 c2, .int .i64 i, .int .i64 j] w (SomeB w) := by
  go_enter Try.func6, Try.ntmps6
  go_wp2
  all_goals
    go_ret
    exact ⟨_, rfl, rfl⟩

/-- Where element k of the swapped row came from. -/
def src (i j k : Nat) : Nat := if k = i then j else if k = j then i else k

theorem sw2_src (I S L : List Int) (i j k b : Nat) : sw2 (mem I S L) i j k b = mem I S L (src i j k) b := by
  unfold sw2 src
  by_cases e1 : k = i
  · rw [if_pos e1, if_pos e1]
  · rw [if_neg e1, if_neg e1]
    by_cases e2 : k = j
    · rw [if_pos e2, if_pos e2]
    · rw [if_neg e2, if_neg e2]

theorem walkIn (x y z : Addr) (n c0 c1 c2 i j : Nat) (I S L : List Int) (w : World) (hn : n ≤ 65536) (hi : i < n) (hj : j < n) (h0 : ∀ i, i < n → w.cell? (x.add i) = some (.int .u32 (I.getD i 0))) (h1 : ∀ i, i < n → w.cell? (y.add i) = some (.int .u32 (S.getD i 0))) (h2 : ∀ i, i < n → w.cell? (z.add i) = some (.int .i32 (L.getD i 0))) :
    Calls Try.prog 3 #[.slice (some x) n c0, .slice (some y) n c1, .slice (some z) n c2, .int .i64 i, .int .i64 j] w fun e w' => e = .returned (.bool true) ∧ Below w.heap.size w w' := by
  have H0 := Lib.hid h0
  have H1 := Lib.hid h1
  have H2 := Lib.hid h2
  have t1 : (n != n) = false := by simp
  have t2 : ((n : Int) != n) = false := by simp
  have b1 : ¬ (n : Int) ≤ (i : Int) := by omega
  have b2 : ¬ (n : Int) ≤ (j : Int) := by omega
  clear h0 h1 h2
  go_enter Try.func3, Try.ntmps3
  go_wp2_with fail
  refine (zb6 _ _ _ _ _ _ _ _ _ _ _ _ hn hn hn).mono ?_
  rintro e u ⟨rfl, rfl⟩
  go_wp2_with fail
  refine (cu x n c0 I _ (by omega) H0.out).mono ?_
  rintro e w1 ⟨rfl, hA, hb1⟩
  have HA := Lib.hid hA
  have HB1 := Lib.hid hb1
  clear hA hb1
  go_wp2_with fail
  refine (cu y n c1 S _ (by omega) (fun i hi => later (H1.out i hi) HB1.out)).mono ?_
  rintro e w2 ⟨rfl, hB, hb2⟩
  have HB := Lib.hid hB
  have HA2 := Lib.hid (HA.out.below hb2 HA.out.lt)
  have HB2 := Lib.hid (HB1.out.trans (hb2.mono HB1.out.size))
  clear hB hb2 HA HB1
  go_wp2_with fail
  refine (ci z n c2 L _ (by omega) (fun i hi => later (H2.out i hi) HB2.out)).mono ?_
  rintro e w3 ⟨rfl, hC, hb3⟩
  have HC := Lib.hid hC
  have HA3 := Lib.hid (HA2.out.below hb3 HA2.out.lt)
  have HB3 := Lib.hid (HB.out.below hb3 HB.out.lt)
  have HBL := Lib.hid (HB2.out.trans (hb3.mono HB2.out.size))
  clear hC hb3 HA2 HB HB2 H0 H1 H2
  go_wp2_with fail
  refine (build9 _ _ _ n _ _ _ I S L _ hn (fun i hi => HA3.out.cellA hi) (fun i hi => HB3.out.cellA hi) (fun i hi => HC.out.cellA hi)).mono ?_
  rintro e w4 ⟨rfl, hR, hb4⟩
  have HR := Lib.hid hR
  have HB4 := Lib.hid hb4
  clear hR hb4
  go_wp2_with fail
  refine (swapped w3.heap.size n n i j I S L _ hi hj hn HR.out).mono ?_
  rintro e w5 ⟨rfl, hR5, hb5⟩
  have HR5 := Lib.hid hR5
  have HB5 := Lib.hid (hb5 _ _ HB4.out (Nat.le_refl _))
  clear hR5 hb5 HR HB4
  have z5 : w3.heap.size ≤ w5.heap.size := HB5.out.size
  go_wp2_with fail
  go_loopw [13] (fun v13 wr => ∃ k : Nat, k ≤ n ∧ v13 = .int .i64 k ∧ Below w5.heap.size w5 wr) (fun v13 _ => n - (intOf v13).toNat)
  case atStart => exact ⟨0, Nat.zero_le _, rfl, Below.refl _ _⟩
  case round =>
    obtain ⟨k, hk, rfl, hb⟩ := hrel
    have HBR := Lib.hid hb
    have hbz : w5.heap.size ≤ wr.heap.size := hb.size
    clear hb
    by_cases hlt : k < n
    · obtain ⟨f, hf⟩ : ∃ f, src i j k = f := ⟨_, rfl⟩
      have hfn : f < n := by
        rw [← hf]
        unfold src
        split
        · exact hj
        · split
          · exact hi
          · exact hlt
      have hR := HR5.out.below HBR.out HR5.out.lt
      have e0 := hR.cell0 (i := k) hlt (by omega)
      have e1 := hR.cell (i := k) hlt (j := 1) (by omega)
      have e2 := hR.cell (i := k) hlt (j := 2) (by omega)
      rw [sw2_src, hf] at e0 e1 e2
      have hb5 := HB5.out.trans (HBR.out.mono z5)
      have g0 := (HA3.out.below hb5 HA3.out.lt).cell hfn
      have g1 := (HB3.out.below hb5 HB3.out.lt).cell hfn
      have g2 := (HC.out.below hb5 HC.out.lt).cell hfn
      obtain ⟨v0, hv0⟩ : ∃ v, I.getD f 0 = v := ⟨_, rfl⟩
      obtain ⟨v1, hv1⟩ : ∃ v, S.getD f 0 = v := ⟨_, rfl⟩
      obtain ⟨v2, hv2⟩ : ∃ v, L.getD f 0 = v := ⟨_, rfl⟩
      simp only [hv0, hv1, hv2] at g0 g1 g2
      rw [show mem I S L f 0 = .int .u32 v1 by rw [← hv1]; rfl] at e0
      rw [show mem I S L f 1 = .int .u32 v0 by rw [← hv0]; rfl] at e1
      rw [show mem I S L f 2 = .int .i32 v2 by rw [← hv2]; rfl] at e2
      have l0 := cell_lt g0
      have l1 := cell_lt g1
      have l2 := cell_lt g2
      have l3 := cell_lt e0
      have hfi : (f : Int) < (n : Int) := by omega
      have s0 : (v0 != v0) = false := by simp
      have s1 : (v1 != v1) = false := by simp
      have s2 : (v2 != v2) = false := by simp
      clear hR hb5 hv0 hv1 hv2
      by_cases ei : k = i
      · obtain rfl : f = j := by rw [← hf, src, if_pos ei]
        clear hf
        subst ei
        go_wp2_with fail
        refine (fld11 _ _ _ _).mono ?_
        rintro e wx ⟨rfl, hbx⟩
        have g0' := later g0 hbx
        have g1' := later g1 hbx
        have g2' := later g2 hbx
        have HX := Lib.hid (HBR.out.trans (hbx.mono hbz))
        clear hbx
        go_wp2_with fail
        go_roundw
        case rel => exact ⟨k + 1, by omega, by go_num, HX.out⟩
        case measure => simp [intOf]; omega
      · have n1 : (k == i) = false := by simpa using ei
        have n1' : ((k : Int) == (i : Int)) = false := by simp; omega
        by_cases ej : k = j
        · obtain rfl : f = i := by rw [← hf, src, if_neg ei, if_pos ej]
          clear hf ei
          subst ej
          go_wp2_with fail
          refine (fld11 _ _ _ _).mono ?_
          rintro e wx ⟨rfl, hbx⟩
          have g0' := later g0 hbx
          have g1' := later g1 hbx
          have g2' := later g2 hbx
          have HX := Lib.hid (HBR.out.trans (hbx.mono hbz))
          clear hbx
          go_wp2_with fail
          go_roundw
          case rel => exact ⟨k + 1, by omega, by go_num, HX.out⟩
          case measure => simp [intOf]; omega
        · obtain rfl : f = k := by rw [← hf, src, if_neg ei, if_neg ej]
          have n2 : (f == j) = false := by simpa using ej
          have n2' : ((f : Int) == (j : Int)) = false := by simp; omega
          clear hf ei ej
          go_wp2_with fail
          refine (fld11 _ _ _ _).mono ?_
          rintro e wx ⟨rfl, hbx⟩
          have g0' := later g0 hbx
          have g1' := later g1 hbx
          have g2' := later g2 hbx
          have HX := Lib.hid (HBR.out.trans (hbx.mono hbz))
          clear hbx
          go_wp2_with fail
          go_roundw
          case rel => exact ⟨f + 1, by omega, by go_num, HX.out⟩
          case measure => simp [intOf]; omega
    · obtain rfl : k = n := by omega
      have HL := HBL.out.trans ((HB5.out.trans (HBR.out.mono z5)).mono HBL.out.size)
      go_wp2_with fail
      go_ret
      exact ⟨rfl, HL⟩

theorem early (a0 a1 a2 : Option Addr) (n0 n1 n2 c0 c1 c2 : Nat) (i j : Int) (w : World) (h0 : n0 ≤ 9223372036854775807) (h1 : n1 ≤ 9223372036854775807) (h2 : n2 ≤ 9223372036854775807)
    (h : 65536 < n0 ∨ 65536 < n1 ∨ 65536 < n2 ∨ n1 ≠ n0 ∨ n2 ≠ n0 ∨ i < 0 ∨ n0 ≤ i ∨ j < 0 ∨ n0 ≤ j) :
    Calls Try.prog 3 #[.slice a0 n0 c0, .slice a1 n1 c1, .slice a2 n2 c2, .int .i64 i, .int .i64 j] w fun e w' => e = .returned (.bool true) ∧ Below w.heap.size w w' := by
  by_cases q0 : 65536 < n0
  · clear h
    go_enter Try.func3, Try.ntmps3
    go_wp2_with fail
    refine (zb6any _ _ _ _ _ _ _ _ _ _ _ _ h0 h1 h2).mono ?_
    rintro e u ⟨b, rfl, rfl⟩
    cases b <;> go_wp2 <;> go_ret <;> exact ⟨rfl, Below.refl _ _⟩
  by_cases q1 : 65536 < n1
  · clear h
    go_enter Try.func3, Try.ntmps3
    go_wp2_with fail
    refine (zb6any _ _ _ _ _ _ _ _ _ _ _ _ h0 h1 h2).mono ?_
    rintro e u ⟨b, rfl, rfl⟩
    cases b <;> go_wp2 <;> go_ret <;> exact ⟨rfl, Below.refl _ _⟩
  by_cases q2 : 65536 < n2
  · clear h
    go_enter Try.func3, Try.ntmps3
    go_wp2_with fail
    refine (zb6any _ _ _ _ _ _ _ _ _ _ _ _ h0 h1 h2).mono ?_
    rintro e u ⟨b, rfl, rfl⟩
    cases b <;> go_wp2 <;> go_ret <;> exact ⟨rfl, Below.refl _ _⟩
  by_cases q3 : n1 = n0
  · subst q3
    by_cases q4 : n2 = n1
    · subst q4
      have t1 : (n2 != n2) = false := by simp
      have t2 : ((n2 : Int) != n2) = false := by simp
      by_cases q5 : i < 0
      · clear h
        go_enter Try.func3, Try.ntmps3
        go_wp2_with fail
        refine (zb6any _ _ _ _ _ _ _ _ _ _ _ _ h0 h1 h2).mono ?_
        rintro e u ⟨b, rfl, rfl⟩
        cases b <;> go_wp2 <;> go_ret <;> exact ⟨rfl, Below.refl _ _⟩
      by_cases q6 : (n2 : Int) ≤ i
      · clear h
        go_enter Try.func3, Try.ntmps3
        go_wp2_with fail
        refine (zb6any _ _ _ _ _ _ _ _ _ _ _ _ h0 h1 h2).mono ?_
        rintro e u ⟨b, rfl, rfl⟩
        cases b <;> go_wp2 <;> go_ret <;> exact ⟨rfl, Below.refl _ _⟩
      by_cases q7 : j < 0
      · clear h
        go_enter Try.func3, Try.ntmps3
        go_wp2_with fail
        refine (zb6any _ _ _ _ _ _ _ _ _ _ _ _ h0 h1 h2).mono ?_
        rintro e u ⟨b, rfl, rfl⟩
        cases b <;> go_wp2 <;> go_ret <;> exact ⟨rfl, Below.refl _ _⟩
      have q8 : (n2 : Int) ≤ j := by omega
      clear h
      go_enter Try.func3, Try.ntmps3
      go_wp2_with fail
      refine (zb6any _ _ _ _ _ _ _ _ _ _ _ _ h0 h1 h2).mono ?_
      rintro e u ⟨b, rfl, rfl⟩
      cases b <;> go_wp2 <;> go_ret <;> exact ⟨rfl, Below.refl _ _⟩
    · have t0 : (n1 != n1) = false := by simp
      have t0' : ((n1 : Int) != n1) = false := by simp
      have t1 : (n2 != n1) = true := by simpa using q4
      have t2 : ((n2 : Int) != n1) = true := by simp; omega
      clear h q4
      go_enter Try.func3, Try.ntmps3
      go_wp2_with fail
      refine (zb6any _ _ _ _ _ _ _ _ _ _ _ _ h0 h1 h2).mono ?_
      rintro e u ⟨b, rfl, rfl⟩
      cases b <;> go_wp2 <;> go_ret <;> exact ⟨rfl, Below.refl _ _⟩
  · have t1 : (n1 != n0) = true := by simpa using q3
    have t2 : ((n1 : Int) != n0) = true := by simp; omega
    clear h q3
    go_enter Try.func3, Try.ntmps3
    go_wp2_with fail
    refine (zb6any _ _ _ _ _ _ _ _ _ _ _ _ h0 h1 h2).mono ?_
    rintro e u ⟨b, rfl, rfl⟩
    cases b <;> go_wp2 <;> go_ret <;> exact ⟨rfl, Below.refl _ _⟩

theorem row_len {k : IntKind} {w : World} {a : Option Addr} {len cap : Nat} {zs : List Int} (h : IsRow k w a len cap zs) : len ≤ 9223372036854775807 := by
  rcases h with ⟨rfl, rfl, rfl, rfl⟩ | ⟨x, rfl, hl, hm, hz, hcell, hwz⟩
  · omega
  · unfold maxLen at hm; omega
theorem row_some {k : IntKind} {w : World} {a : Option Addr} {len cap : Nat} {zs : List Int} (h : IsRow k w a len cap zs) (hp : 0 < len) : ∃ x, a = some x ∧ ∀ i, i < len → w.cell? (x.add i) = some (.int k (zs.getD i 0)) := by
  rcases h with ⟨rfl, rfl, rfl, rfl⟩ | ⟨x, rfl, hl, hm, hz, hcell, hwz⟩
  · omega
  · exact ⟨x, rfl, fun i hi => hcell i (by omega)⟩

theorem walk (a0 : Option Addr) (len0 cap0 : Nat) (z0 : List Int) (a1 : Option Addr) (len1 cap1 : Nat) (z1 : List Int) (a2 : Option Addr) (len2 cap2 : Nat) (z2 : List Int) (a3 : Int) (a4 : Int) (w : World) (w0 : IsRow .u32 w a0 len0 cap0 z0) (w1 : IsRow .u32 w a1 len1 cap1 z1) (w2 : IsRow .i32 w a2 len2 cap2 z2) (w3 : (Lit.int .i64 a3).wf = true) (w4 : (Lit.int .i64 a4).wf = true) :
    Calls Try.prog 3 #[.slice a0 len0 cap0, .slice a1 len1 cap1, .slice a2 len2 cap2, .int .i64 a3, .int .i64 a4] w fun e w' => e = .returned (.bool true) ∧ Below w.heap.size w w' := by
  by_cases h : 65536 < len0 ∨ 65536 < len1 ∨ 65536 < len2 ∨ len1 ≠ len0 ∨ len2 ≠ len0 ∨ a3 < 0 ∨ len0 ≤ a3 ∨ a4 < 0 ∨ len0 ≤ a4
  · exact early a0 a1 a2 len0 len1 len2 cap0 cap1 cap2 a3 a4 w (row_len w0) (row_len w1) (row_len w2) h
  · obtain ⟨i, rfl⟩ : ∃ i : Nat, a3 = i := ⟨a3.toNat, by omega⟩
    obtain ⟨j, rfl⟩ : ∃ j : Nat, a4 = j := ⟨a4.toNat, by omega⟩
    obtain rfl : len1 = len0 := by omega
    obtain rfl : len2 = len1 := by omega
    obtain ⟨x, rfl, hx⟩ := row_some w0 (by omega)
    obtain ⟨y, rfl, hy⟩ := row_some w1 (by omega)
    obtain ⟨z, rfl, hz⟩ := row_some w2 (by omega)
    exact walkIn x y z len2 cap0 cap1 cap2 i j z0 z1 z2 w (by omega) (by omega) (by omega) hx hy hz

end Go.Proofs.Ytmbbabikbmkjpaa.fnScopeMemberArraySwapExchangesExactlyTwo
