import Derived.Test.YtailfkedgdlldacKit
import Derived.Test.YtailfkedgdlldacJwF
import Derived.Test.YtailfkedgdlldacJwG
namespace Go.Proofs.Ytailfkedgdlldac.fnJoinWithLeftAssociativeOpLeftFoldModel
open Go.ChangeShapes Go.WideShapes Go.ChangeAt Go.RowKit
set_option linter.unusedVariables false
set_option maxRecDepth 100000
set_option maxHeartbeats 2000000

theorem bytes_ok {z : List Int} {w : World} {a : Option Addr} {len cap : Nat} (h : IsRow .u8 w a len cap z) : ∀ i, i < len → 0 ≤ z.getD i 0 ∧ z.getD i 0 ≤ 255 := by
  intro i hi
  rcases h with ⟨_, rfl, _⟩ | ⟨x, _, h1, h2, h3, h4, h5⟩
  · omega
  · have hl : i < z.length := by omega
    have e : z.getD i 0 = z[i] := by rw [List.getD_eq_getElem?_getD, List.getElem?_eq_getElem hl]; rfl
    have := h5 z[i] (List.getElem_mem hl)
    rw [e]
    simp only [Lit.wf, Bool.and_eq_true, decide_eq_true_eq] at this
    exact ⟨this.1, this.2⟩

theorem early (op : Int) (a1 : Option Addr) (n1 c1 : Nat) (a2 : Option Addr) (n2 c2 : Nat) (w : World) (h1 : n1 ≤ 9223372036854775807) (h2 : n2 ≤ 9223372036854775807) (h : 4096 < n1 ∨ 4096 < n2 ∨ op < 11 ∨ 35 < op) :
    Calls Try.prog 4 #[.int .u8 op, .slice a1 n1 c1, .slice a2 n2 c2] w fun e w' => e = .returned (.bool true) ∧ Below w.heap.size w w' := by
  by_cases hA : 4096 < n1
  · clear h
    go_enter Try.func4, Try.ntmps4
    go_wp2_with fail
    refine (zz10 _ _ _ _ _ _ _ _ h1 h2).mono ?_
    rintro e w1 ⟨b, rfl, rfl⟩
    cases b
    all_goals
      go_wp2_with fail
      go_ret
      exact ⟨rfl, Below.refl _ _⟩
  · by_cases hB : 4096 < n2
    · clear h
      go_enter Try.func4, Try.ntmps4
      go_wp2_with fail
      refine (zz10 _ _ _ _ _ _ _ _ h1 h2).mono ?_
      rintro e w1 ⟨b, rfl, rfl⟩
      cases b
      all_goals
        go_wp2_with fail
        go_ret
        exact ⟨rfl, Below.refl _ _⟩
    · have hlo : op < 11 ∨ 35 < op := by omega
      clear h
      by_cases hC : op < 11
      · clear hlo
        go_enter Try.func4, Try.ntmps4
        go_wp2_with fail
        refine (zz10 _ _ _ _ _ _ _ _ h1 h2).mono ?_
        rintro e w1 ⟨b, rfl, rfl⟩
        cases b
        all_goals
          go_wp2_with fail
          go_ret
          exact ⟨rfl, Below.refl _ _⟩
      · have hD : 35 < op := by omega
        clear hlo
        go_enter Try.func4, Try.ntmps4
        go_wp2_with fail
        refine (zz10 _ _ _ _ _ _ _ _ h1 h2).mono ?_
        rintro e w1 ⟨b, rfl, rfl⟩
        cases b
        all_goals
          go_wp2_with fail
          go_ret
          exact ⟨rfl, Below.refl _ _⟩

theorem main (op : Int) (a1 : Option Addr) (n1 c1 : Nat) (z1 : List Int) (a2 : Option Addr) (n2 c2 : Nat) (z2 : List Int) (w : World) (h1 : n1 ≤ 4096) (h2 : n2 ≤ 4096) (hlo : 11 ≤ op) (hhi : op ≤ 35) (w1 : IsRow .u8 w a1 n1 c1 z1) (w2 : IsRow .u8 w a2 n2 c2 z2) :
    Calls Try.prog 4 #[.int .u8 op, .slice a1 n1 c1, .slice a2 n2 c2] w fun e w' => e = .returned (.bool true) ∧ Below w.heap.size w w' := by
  have hz1 := Lib.hid (bytes_ok w1)
  have hz2 := Lib.hid (bytes_ok w2)
  have HW1 := Lib.hid w1
  have HW2 := Lib.hid w2
  clear w1 w2
  go_enter Try.func4, Try.ntmps4
  go_wp2_with fail
  refine (zz10 _ _ _ _ _ _ _ _ (by omega) (by omega)).mono ?_
  rintro e wa ⟨b, rfl, rfl⟩
  cases b
  · go_wp2_with fail
    go_ret
    exact ⟨rfl, Below.refl _ _⟩
  go_wp2_with fail
  refine (clone_any a1 n1 c1 z1 _ (by omega) HW1.out).mono ?_
  rintro e wb ⟨b1, d1, rfl, hs1, hb1⟩
  have HS1 := Lib.hid hs1
  have HB1 := Lib.hid hb1
  have HW2' : Hid (IsRow .u8 wb a2 n2 c2 z2) := by
    rcases HW2.out with h | ⟨x, e1, e2, e3, e4, e5, e6⟩
    · exact .inl h
    · exact .inr ⟨x, e1, e2, e3, e4, fun i hi => later (e5 i hi) hb1, e6⟩
  clear hs1 hb1 HW2 HW1
  go_wp2_with fail
  refine (clone_any a2 n2 c2 z2 _ (by omega) HW2'.out).mono ?_
  rintro e wc ⟨b2, d2, rfl, hs2, hb2⟩
  have HS2 := Lib.hid hs2
  have HS1' := Lib.hid (HS1.out.below hb2)
  have HB2 := Lib.hid (HB1.out.trans (hb2.mono HB1.out.size))
  clear hs2 hb2 HB1 HS1 HW2'
  go_wp2_with fail
  refine (other12 op _).mono ?_
  rintro e wd ⟨ot, rfl, rfl⟩
  go_wp2_with fail
  refine (parse_any b1 n1 d1 z1 0 op ot _ h1 (by omega) (by omega) hz1.out HS1'.out).mono ?_
  rintro e w3 ⟨d3, l3, nx3, ok3, rfl, hb3, ho3, ht3⟩
  have hst3 := fun (A : Addr) (W : World) (m : Mode) => run_store Try.prog W A d3 m ho3
  have HS2' := Lib.hid (HS2.out.below hb3)
  have HB3 := Lib.hid (HB2.out.trans (hb3.mono HB2.out.size))
  have HT3 := Lib.hid ht3
  clear hb3 ht3 HB2 HS2 HS1'
  cases ok3
  · go_wp2_with fail
    go_ret
    exact ⟨rfl, HB3.out.alloc HB3.out.size _⟩
  obtain ⟨t1, m1, ht1, rfl, rfl, rfl, _, q1, q2⟩ := HT3.out rfl
  have HT1 := Lib.hid ht1
  clear HT3 ht1
  by_cases hm1 : m1 = n1
  · have hmb : ((m1 : Int) != (n1 : Int)) = false := by simp; omega
    clear hm1
    go_wp2_with fail
    refine (parse_any b2 n2 d2 z2 8192 op ot _ h2 (by omega) (by omega) hz2.out (HS2'.out.below (by go_grown))).mono ?_
    rintro e w4 ⟨d4, l4, nx4, ok4, rfl, hb4, ho4, ht4⟩
    have hst4 := fun (A : Addr) (W : World) (m : Mode) => run_store Try.prog W A d4 m ho4
    have hb34 : Below w3.heap.size w3 w4 := Below.trans (by go_grown) (hb4.mono (by go_size))
    have HB4 := Lib.hid (HB3.out.trans (hb34.mono HB3.out.size))
    have RA : RowAt w4 w3.heap.size #[t1.d, .int .i32 t1.l] 27 := (RowAt.new _ _ _).below hb4 (by go_size)
    have HT1' := Lib.hid (HT1.out.kept (K5.later hb34))
    have HT4 := Lib.hid ht4
    have HRA := Lib.hid RA
    have za := RA.lt
    have zb := HB3.out.size
    clear hb4 ht4 HT1 hb34 HB3 HS2' RA
    cases ok4
    · go_wp2_with fail
      go_ret
      exact ⟨rfl, HB4.out.alloc HB4.out.size _⟩
    obtain ⟨t2, m2, ht2, rfl, rfl, rfl, _, q3, q4⟩ := HT4.out rfl
    have HT2 := Lib.hid ht2
    clear HT4 ht2
    by_cases hm2 : m2 = n2
    · have hmb2 : ((m2 : Int) != (n2 : Int)) = false := by simp; omega
      clear hm2
      have ra0 := HRA.out.cellv (j := 0) (v := t1.d) rfl
      have ra1 := HRA.out.cellv (j := 1) (v := .int .i32 t1.l) rfl
      have za' : w3.heap.size < w4.heap.size + 1 := by omega
      go_wp2_with fail
      refine (joinTree op (by omega) t2 t1 _ (HT1'.out.kept (K5.later (by go_grown))) (HT2.out.kept (K5.later (by go_grown)))).mono ?_
      rintro e w5 ⟨y, rfl, hj, hb5⟩
      have hb45 : Below w4.heap.size w4 w5 := Below.trans (by go_grown) (hb5.mono (by go_size))
      have RB : RowAt w5 w4.heap.size #[t2.d, .int .i32 t2.l] 27 := (RowAt.new _ _ _).below hb5 (by go_size)
      have RA := HRA.out.below hb45 HRA.out.lt
      have HB5 := Lib.hid (HB4.out.trans (hb45.mono HB4.out.size))
      have hyo := hj.node.one
      have hst5 := fun (A : Addr) (W : World) (m : Mode) => run_store Try.prog W A y.1 m hyo
      have HJ := Lib.hid (JoinIs.mono (Nat.zero_le _) hj)
      have HK := Lib.hid (K5.later (B := 0) hb45)
      clear ra0 ra1 hb5 hj hb45 HB4 HRA za za'
      have ra0 := RA.cellv (j := 0) (v := t1.d) rfl
      have ra1 := RA.cellv (j := 1) (v := .int .i32 t1.l) rfl
      have rb0 := RB.cellv (j := 0) (v := t2.d) rfl
      have rb1 := RB.cellv (j := 1) (v := .int .i32 t2.l) rfl
      have za := RA.lt
      have zc := RB.lt
      have za' : w3.heap.size < w5.heap.size + 1 := by omega
      have zc' : w4.heap.size < w5.heap.size + 1 := by omega
      clear RA RB
      go_wp2_with fail
      refine (check15 op (by omega) t1 t2 y _ (JoinIs.kept (K5.later (by go_grown)) HJ.out) ((HT1'.out.kept HK.out).kept (K5.later (by go_grown))) ((HT2.out.kept HK.out).kept (K5.later (by go_grown))) (by omega)).mono ?_
      rintro e w6 ⟨rfl, hb6⟩
      have HB6 : Hid (Below w.heap.size w w6) := (HB5.out.alloc HB5.out.size _).trans (hb6.mono (by have := HB5.out.size; go_size))
      clear hb6 ra0 ra1 rb0 rb1
      go_wp2_with fail
      go_ret
      exact ⟨rfl, HB6.out⟩
    · have hmb2 : ((m2 : Int) != (n2 : Int)) = true := by simp; omega
      clear hm2
      go_wp2_with fail
      go_ret
      exact ⟨rfl, HB4.out.alloc HB4.out.size _⟩
  · have hmb : ((m1 : Int) != (n1 : Int)) = true := by simp; omega
    clear hm1
    go_wp2_with fail
    go_ret
    exact ⟨rfl, HB3.out.alloc HB3.out.size _⟩

theorem walk (a0 : Int) (a1 : Option Addr) (len1 cap1 : Nat) (z1 : List Int) (a2 : Option Addr) (len2 cap2 : Nat) (z2 : List Int) (w : World) (w0 : (Lit.int .u8 a0).wf = true) (w1 : IsRow .u8 w a1 len1 cap1 z1) (w2 : IsRow .u8 w a2 len2 cap2 z2) :
    Calls Try.prog 4 #[.int .u8 a0, .slice a1 len1 cap1, .slice a2 len2 cap2] w fun e w' => e = .returned (.bool true) ∧ Below w.heap.size w w' := by
  have hl1 : len1 ≤ 9223372036854775807 := by
    rcases w1 with ⟨_, h1, _⟩ | ⟨x, _, h1, h2, _⟩
    · omega
    · unfold maxLen at h2; omega
  have hl2 : len2 ≤ 9223372036854775807 := by
    rcases w2 with ⟨_, h1, _⟩ | ⟨x, _, h1, h2, _⟩
    · omega
    · unfold maxLen at h2; omega
  by_cases h : 4096 < len1 ∨ 4096 < len2 ∨ a0 < 11 ∨ 35 < a0
  · exact early a0 a1 len1 cap1 a2 len2 cap2 w hl1 hl2 h
  · exact main a0 a1 len1 cap1 z1 a2 len2 cap2 z2 w (by omega) (by omega) (by omega) (by omega) w1 w2

end Go.Proofs.Ytailfkedgdlldac.fnJoinWithLeftAssociativeOpLeftFoldModel
