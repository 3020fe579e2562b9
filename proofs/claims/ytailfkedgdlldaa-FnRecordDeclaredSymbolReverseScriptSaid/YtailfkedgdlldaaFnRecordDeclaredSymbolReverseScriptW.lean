import Derived.Test.YtailfkedgdlldaaKit
import Derived.Test.YtailfkedgdlldaaRdN
import Derived.Test.YtailfkedgdlldaaRdL
import Derived.IntWalk
namespace Go.Proofs.Ytailfkedgdlldaa.fnRecordDeclaredSymbolReverseScript
open Go.ChangeShapes Go.WideShapes Go.ChangeAt Go.RowKit
set_option linter.unusedVariables false
set_option maxRecDepth 100000
set_option maxHeartbeats 2000000

theorem bytes_ok8 {z : List Int} {w : World} {a : Option Addr} {len cap : Nat} (h : IsRow .u8 w a len cap z) : ∀ i, i < len → 0 ≤ z.getD i 0 ∧ z.getD i 0 ≤ 255 := by
  intro i hi
  rcases h with ⟨_, rfl, _⟩ | ⟨x, _, h1, h2, h3, h4, h5⟩
  · omega
  · have hl : i < z.length := by omega
    have e : z.getD i 0 = z[i] := by rw [List.getD_eq_getElem?_getD, List.getElem?_eq_getElem hl]; rfl
    have := h5 z[i] (List.getElem_mem hl)
    rw [e]
    simp only [Lit.wf, Bool.and_eq_true, decide_eq_true_eq] at this
    exact ⟨this.1, this.2⟩
theorem bytes_ok16 {z : List Int} {w : World} {a : Option Addr} {len cap : Nat} (h : IsRow .u16 w a len cap z) : ∀ i, i < len → 0 ≤ z.getD i 0 ∧ z.getD i 0 ≤ 65535 := by
  intro i hi
  rcases h with ⟨_, rfl, _⟩ | ⟨x, _, h1, h2, h3, h4, h5⟩
  · omega
  · have hl : i < z.length := by omega
    have e : z.getD i 0 = z[i] := by rw [List.getD_eq_getElem?_getD, List.getElem?_eq_getElem hl]; rfl
    have := h5 z[i] (List.getElem_mem hl)
    rw [e]
    simp only [Lit.wf, Bool.and_eq_true, decide_eq_true_eq] at this
    exact ⟨this.1, this.2⟩
theorem bytes_ok32 {z : List Int} {w : World} {a : Option Addr} {len cap : Nat} (h : IsRow .u32 w a len cap z) : ∀ i, i < len → 0 ≤ z.getD i 0 ∧ z.getD i 0 ≤ 4294967295 := by
  intro i hi
  rcases h with ⟨_, rfl, _⟩ | ⟨x, _, h1, h2, h3, h4, h5⟩
  · omega
  · have hl : i < z.length := by omega
    have e : z.getD i 0 = z[i] := by rw [List.getD_eq_getElem?_getD, List.getElem?_eq_getElem hl]; rfl
    have := h5 z[i] (List.getElem_mem hl)
    rw [e]
    simp only [Lit.wf, Bool.and_eq_true, decide_eq_true_eq] at this
    exact ⟨this.1, this.2⟩

/-- The script: which symbol each ref names. -/
def scr (z : List Int) (n len : Nat) : List Nat := (List.range len).map fun i => (z.getD i 0 % (n : Int)).toNat
theorem scr_len (z : List Int) (n len : Nat) : (scr z n len).length = len := by simp [scr]
theorem scr_get (z : List Int) (n len i : Nat) (hi : i < len) : (scr z n len)[i]? = some (z.getD i 0 % (n : Int)).toNat := by simp [scr, hi]
theorem take_snoc {L : List Nat} {i k : Nat} (h : L[i]? = some k) : L.take (i + 1) = L.take i ++ [k] := by rw [List.take_add_one, h]; rfl
theorem rev_snoc {L : List Nat} {i k : Nat} (h : L[i]? = some k) : (L.drop i).reverse = (L.drop (i + 1)).reverse ++ [k] := by
  have hi := (List.getElem?_eq_some_iff.1 h).1
  have e : L[i] = k := (List.getElem?_eq_some_iff.1 h).2
  rw [List.drop_eq_getElem_cons hi, List.reverse_cons, e]

/-- A new part. -/
def partCs : Array Value := #[.slice none 0 0, .slice none 0 0, .slice none 0 0, .slice none 0 0, .map none, .map none, .map none, .slice none 0 0, .bool false, .bool false, .bool false]

theorem main (t : Bool) (a1 : Option Addr) (n1 c1 : Nat) (z1 : List Int) (a2 : Option Addr) (n2 c2 : Nat) (z2 : List Int) (a3 : Option Addr) (n3 c3 : Nat) (z3 : List Int) (a4 : Option Addr) (n4 c4 : Nat) (z4 : List Int) (w : World)
    (h1 : n1 ≤ 65536) (h2 : n2 ≤ 65536) (h3 : n3 ≤ 65536) (h4 : n4 ≤ 65536) (w1 : IsRow .u8 w a1 n1 c1 z1) (w2 : IsRow .u8 w a2 n2 c2 z2) (w3 : IsRow .u16 w a3 n3 c3 z3) (w4 : IsRow .u32 w a4 n4 c4 z4) :
    Calls Try.prog 5 #[.bool t, .slice a1 n1 c1, .slice a2 n2 c2, .slice a3 n3 c3, .slice a4 n4 c4] w fun e w' => e = .returned (.bool true) ∧ Below w.heap.size w w' := by
  have HZ1 := Lib.hid (bytes_ok8 w1)
  have HZ2 := Lib.hid (bytes_ok8 w2)
  have HZ3 := Lib.hid (bytes_ok16 w3)
  have HZ4 := Lib.hid (bytes_ok32 w4)
  have HW1 := Lib.hid w1
  have HW2 := Lib.hid w2
  have HW3 := Lib.hid w3
  have HW4 := Lib.hid w4
  clear w1 w2 w3 w4
  obtain ⟨n, en⟩ : ∃ n : Nat, (n1 : Int) + 1 = (n : Int) := ⟨n1 + 1, by omega⟩
  have hn : n ≤ 65537 := by omega
  have hn1 : 1 ≤ n := by omega
  go_enter Try.func5, Try.ntmps5
  go_wp2_with fail
  refine (zz22 _ _ _ _ _ _ _ _ _ _ _ _ _ _ (by omega) (by omega) (by omega) (by omega)).mono ?_
  rintro e wa ⟨b, rfl, rfl⟩
  cases b
  · go_wp2_with fail
    go_ret
    exact ⟨rfl, Below.refl _ _⟩
  go_wp2_with fail
  refine (syms23 n a1 n1 c1 z1 a2 n2 c2 z2 _ hn h1 h2 HW1.out HW2.out HZ1.out HZ2.out).mono ?_
  rintro e wb ⟨nm, kd, rfl, hs, hb⟩
  have HS := Lib.hid hs
  have HB := Lib.hid hb
  clear hs hb
  go_wp2_with fail
  refine (scopes24 n a3 n3 c3 z3 t _ hn h3 (isrow_later HW3.out HB.out) HZ3.out).mono ?_
  rintro e wc ⟨cur, rfl, hg, hc⟩
  obtain ⟨_, _, _, _, _, hb⟩ := id hg
  obtain ⟨ma, mb, hsc⟩ := sc_of (HS.out.later hb) hg hc
  have HB2 := Lib.hid (HB.out.trans (hb.mono HB.out.size))
  have hq0 : w.heap.size ≤ wc.heap.size := HB2.out.size
  obtain ⟨x, hx⟩ : ∃ x : Fx, (⟨n, t, nm, kd, ma, mb⟩ : Fx) = x := ⟨_, rfl⟩
  have hxn : x.n = n := by rw [← hx]
  rw [hx] at hsc
  have HSC := Lib.hid hsc
  have HX := Lib.hid hxn
  clear hg hc hb hsc hx hxn HS HB
  go_wp2_with fail
  refine (mode26 _).mono ?_
  rintro e wd ⟨m, rfl, hb⟩
  have HQ : Hid (RowAt wd wc.heap.size partCs 49) := (RowAt.new _ _ _).below hb (by go_size)
  have hbc : Below wc.heap.size wc wd := Below.trans (by go_grown) (hb.mono (by go_size))
  have HSC2 := Lib.hid (HSC.out.later hbc)
  have HB3 := Lib.hid (HB2.out.trans (hbc.mono HB2.out.size))
  clear hb hbc HSC HB2
  go_wp2_with fail
  refine (new25 wc.heap.size w.heap.size cur (wb.heap.size + 1) n m _).mono ?_
  rintro e we ⟨p, rfl, hp, hb⟩
  have HPA : Hid (Pa we p wc.heap.size w.heap.size cur (wb.heap.size + 1) we.heap.size (.slice none 0 0) x ((scr z4 n n4).take 0)) := ⟨by rw [HX.out]; exact hp, ⟨_, HQ.out.below hb HQ.out.lt, by decide, rfl⟩, World.ownsRow_nil _ _ _ _⟩
  have HSC3 := Lib.hid (HSC2.out.later hb)
  have HB4 := Lib.hid (HB3.out.trans (hb.mono HB3.out.size))
  clear hp hb HQ HSC2 HB3
  go_wp2_with fail
  go_loopw [17] (fun v17 wr => ∃ (i : Nat) (v : Value), i ≤ n4 ∧ v17 = .int .i64 i ∧ Pa wr p wc.heap.size w.heap.size cur (wb.heap.size + 1) we.heap.size v x ((scr z4 n n4).take i) ∧ Sc wr w.heap.size cur (wb.heap.size + 1) wb.heap.size x ∧ Fr (RX wc.heap.size we.heap.size) we wr) (fun v17 _ => n4 - (intOf v17).toNat)
  case atStart => exact ⟨0, _, Nat.zero_le _, rfl, HPA.out, HSC3.out, Fr.refl⟩
  case round =>
    obtain ⟨i, v, hi, rfl, hP, hS, hF⟩ := hrel
    have HP := Lib.hid hP
    have HS := Lib.hid hS
    have HF := Lib.hid hF
    have HBR : Hid (Below w.heap.size w wr) := HB4.out.trans (hF.below (by rintro j (h | h); omega; have := HB4.out.size; omega) HB4.out.size)
    clear hP hS hF HPA HSC3
    by_cases hlt : i < n4
    · have hcl : ∃ x4, a4 = some x4 ∧ wr.cell? (x4.add i) = some (.int .u32 (z4.getD i 0)) := by
        rcases HW4.out with ⟨_, e, _⟩ | ⟨x4, e1, e2, e3, e4, e5, e6⟩
        · omega
        · exact ⟨x4, e1, later (e5 i (by omega)) HBR.out⟩
      obtain ⟨x4, rfl, c0⟩ := hcl
      obtain ⟨zi, hzi⟩ : ∃ zi, z4.getD i 0 = zi := ⟨_, rfl⟩
      have hz := HZ4.out i hlt
      have hsg := scr_get z4 n n4 i hlt
      rw [hzi] at c0 hz hsg
      obtain ⟨hz0, hz1⟩ := hz
      obtain ⟨r, hr⟩ : ∃ r : Nat, zi % (n : Int) = r := ⟨(zi % (n : Int)).toNat, by have := Int.emod_nonneg zi (show (n : Int) ≠ 0 by omega); omega⟩
      have hrn : r < n := by have := Int.emod_lt_of_pos zi (show (0 : Int) < n by omega); omega
      have hsg' : (scr z4 n n4)[i]? = some r := by rw [hsg, hr]; rfl
      have HTK := Lib.hid (take_snoc hsg')
      have hpos : (0 : Int) < (n : Int) := by omega
      have hne : ((n : Int) = 0) = False := by simp; omega
      clear hzi hsg hsg'
      go_wp2_with fail
      refine (ref28 r _ (by omega)).mono ?_
      rintro e wx ⟨rfl, hb⟩
      have HP2 := Lib.hid (HP.out.later hb)
      have HS2 := Lib.hid (HS.out.later hb)
      have HF2 := Lib.hid (HF.out.trans (Fr.of_below hb))
      clear hb HP HS HF c0
      go_wp2_with fail
      refine (rec27 p wc.heap.size w.heap.size cur (wb.heap.size + 1) wb.heap.size we.heap.size r v x _ _ HS2.out HP2.out (by rw [HX.out]; exact hrn) (by rw [HX.out]; exact hn) (Nat.le_trans (List.length_take_le _ _) (by omega)) HF2.out.size).mono ?_
      rintro e wy ⟨rfl, ⟨v', hP3⟩, hS3, hF3⟩
      have HP3 := Lib.hid hP3
      have HS3 := Lib.hid hS3
      have HF3 := Lib.hid (HF2.out.trans hF3)
      clear hP3 hS3 hF3 HP2 HS2 HF2
      go_wp2_with fail
      go_roundw
      case rel => exact ⟨i + 1, v', by omega, by go_num, by rw [HTK.out]; exact HP3.out, HS3.out, HF3.out⟩
      case measure => simp [intOf]; omega
    · obtain rfl : i = n4 := by omega
      clear hlt
      obtain ⟨wo, rfl⟩ : ∃ wo : World, wo = wr := ⟨_, rfl⟩
      obtain ⟨L, hL⟩ : ∃ L, scr z4 n i = L := ⟨_, rfl⟩
      have hLL := scr_len z4 n i
      have HGT : Hid (∀ j, j < i → L[j]? = some (z4.getD j 0 % (n : Int)).toNat) := fun j hj => by rw [← hL]; exact scr_get z4 n i j hj
      have HP' : Hid (Pa wo p wc.heap.size w.heap.size cur (wb.heap.size + 1) we.heap.size v x L) := by
        have := HP.out
        rw [List.take_of_length_le (by rw [hLL]; exact Nat.le_refl _), hL] at this
        exact this
      rw [hL] at hLL
      have HLL := Lib.hid hLL
      have hqw : wc.heap.size < wo.heap.size := by
        obtain ⟨_, ⟨ds, d1, _⟩, _⟩ := HP'.out
        exact d1.lt
      clear hLL hL HP HF
      go_wp2_with fail
      refine (mode26 _).mono ?_
      rintro e wd2 ⟨m2, rfl, hb⟩
      have HQ : Hid (RowAt wd2 wo.heap.size partCs 49) := (RowAt.new _ _ _).below hb (by go_size)
      have hbc : Below wo.heap.size wo wd2 := Below.trans (by go_grown) (hb.mono (by go_size))
      have HS4 := Lib.hid (HS.out.later hbc)
      have HP4 := Lib.hid (HP'.out.later hbc)
      have HB5 := Lib.hid (HBR.out.trans (hbc.mono HBR.out.size))
      have hw1 := HBR.out.size
      clear hb hbc HS HP' HBR
      go_wp2_with fail
      refine (new25 wo.heap.size w.heap.size cur (wb.heap.size + 1) n m2 _).mono ?_
      rintro e w5 ⟨p2, rfl, hp, hb⟩
      have HQ5 := Lib.hid (HQ.out.below hb HQ.out.lt)
      have HPB : Hid (Pa w5 p2 wo.heap.size w.heap.size cur (wb.heap.size + 1) w5.heap.size (.slice none 0 0) x []) := ⟨by rw [HX.out]; exact hp, ⟨_, HQ5.out, by decide, rfl⟩, World.ownsRow_nil _ _ _ _⟩
      have HS5 := Lib.hid (HS4.out.later hb)
      have HP5 := Lib.hid (HP4.out.later hb)
      have HB6 := Lib.hid (HB5.out.trans (hb.mono HB5.out.size))
      clear hp hb HQ HS4 HP4 HB5
      go_wp2_with fail
      go_loopw [20] (fun v20 wr => ∃ (q : Int) (v2 : Value), -1 ≤ q ∧ q < i ∧ v20 = .int .i64 q ∧ Pa wr p2 wo.heap.size w.heap.size cur (wb.heap.size + 1) w5.heap.size v2 x (L.drop (q + 1).toNat).reverse ∧ Sc wr w.heap.size cur (wb.heap.size + 1) wb.heap.size x ∧ Fr (RX wo.heap.size w5.heap.size) w5 wr) (fun v20 _ => (intOf v20 + 1).toNat)
      case atStart =>
        refine ⟨(i : Int) - 1, .slice none 0 0, by omega, by omega, rfl, ?_, HS5.out, Fr.refl⟩
        rw [show ((i : Int) - 1 + 1).toNat = L.length by rw [HLL.out]; omega, List.drop_length]
        exact HPB.out
      case round =>
        obtain ⟨q, v2, hq0', hq1, rfl, hP, hS, hF⟩ := hrel
        have HP := Lib.hid hP
        have HS := Lib.hid hS
        have HF := Lib.hid hF
        have HBR : Hid (Below w.heap.size w wr) := HB6.out.trans (hF.below (by rintro j (h | h); omega; have := HB6.out.size; omega) HB6.out.size)
        clear hP hS hF HPB HS5
        by_cases hq : 0 ≤ q
        · obtain ⟨k, rfl⟩ : ∃ k : Nat, q = k := ⟨q.toNat, by omega⟩
          have hlt : k < i := by omega
          have hcl : ∃ x4, a4 = some x4 ∧ wr.cell? (x4.add k) = some (.int .u32 (z4.getD k 0)) := by
            rcases HW4.out with ⟨_, e, _⟩ | ⟨x4, e1, e2, e3, e4, e5, e6⟩
            · omega
            · exact ⟨x4, e1, later (e5 k (by omega)) HBR.out⟩
          obtain ⟨x4, rfl, c0⟩ := hcl
          obtain ⟨zi, hzi⟩ : ∃ zi, z4.getD k 0 = zi := ⟨_, rfl⟩
          have hz := HZ4.out k hlt
          have hsg := HGT.out k hlt
          rw [hzi] at c0 hz hsg
          obtain ⟨hz0, hz1⟩ := hz
          obtain ⟨r, hr⟩ : ∃ r : Nat, zi % (n : Int) = r := ⟨(zi % (n : Int)).toNat, by have := Int.emod_nonneg zi (show (n : Int) ≠ 0 by omega); omega⟩
          have hrn : r < n := by have := Int.emod_lt_of_pos zi (show (0 : Int) < n by omega); omega
          have hsg' : L[k]? = some r := by rw [hsg, hr]; rfl
          have HTK := Lib.hid (rev_snoc hsg')
          have hpos : (0 : Int) < (n : Int) := by omega
          have hne : ((n : Int) = 0) = False := by simp; omega
          clear hzi hsg hsg' hq
          go_wp2_with fail
          refine (ref28 r _ (by omega)).mono ?_
          rintro e wx ⟨rfl, hb⟩
          have HP2 := Lib.hid (HP.out.later hb)
          have HS2 := Lib.hid (HS.out.later hb)
          have HF2 := Lib.hid (HF.out.trans (Fr.of_below hb))
          clear hb HP HS HF c0
          go_wp2_with fail
          refine (rec27 p2 wo.heap.size w.heap.size cur (wb.heap.size + 1) wb.heap.size w5.heap.size r v2 x _ _ HS2.out HP2.out (by rw [HX.out]; exact hrn) (by rw [HX.out]; exact hn) (by rw [List.length_reverse, List.length_drop, HLL.out]; omega) HF2.out.size).mono ?_
          rintro e wy ⟨rfl, ⟨v', hP3⟩, hS3, hF3⟩
          have HP3 := Lib.hid hP3
          have HS3 := Lib.hid hS3
          have HF3 := Lib.hid (HF2.out.trans hF3)
          clear hP3 hS3 hF3 HP2 HS2 HF2
          go_wp2_with fail
          go_roundw
          case rel =>
            refine ⟨(k : Int) - 1, v', by omega, by omega, rfl, ?_, HS3.out, HF3.out⟩
            rw [show ((k : Int) - 1 + 1).toNat = k by omega, HTK.out]
            exact HP3.out
          case measure => first | (simp [intOf]; done) | (simp [intOf]; omega)
        · obtain rfl : q = -1 := by omega
          have HPB2 : Hid (Pa wr p2 wo.heap.size w.heap.size cur (wb.heap.size + 1) w5.heap.size v2 x L.reverse) := HP.out
          have HPA2 := Lib.hid (HP5.out.fr HF.out (by omega) ⟨_, HQ5.out⟩)
          clear HP HS HF hq HP5 HQ5 HB6
          obtain ⟨_, ⟨d1, e1, _, e2⟩, ho1⟩ := HPA2.out
          obtain ⟨_, ⟨d2, f1, _, f2⟩, ho2⟩ := HPB2.out
          have k1 := e1.cellv e2
          have k2 := f1.cellv f2
          have HLR : Hid (L.reverse.length = i) := by unfold Hid; rw [List.length_reverse]; exact HLL.out
          rw [HLL.out] at ho1
          rw [HLR.out] at ho2
          by_cases h0 : i = 0
          · subst h0
            obtain ⟨b1, b2, rfl⟩ := own_shape0 ho1
            obtain ⟨b3, b4, rfl⟩ := own_shape0 ho2
            clear HPA2 HPB2 e1 e2 f1 f2 ho1 ho2
            go_wp2_with fail
            go_rounds 1
            go_ret
            exact ⟨rfl, HBR.out⟩
          · obtain ⟨g1, cp1, u1, rfl, l1, m1, s1, y1⟩ := own_shape ho1 (by omega)
            obtain ⟨g2, cp2, u2, rfl, l2, m2', s2, y2⟩ := own_shape ho2 (by omega)
            have HS1 := Lib.hid s1
            have HS2 := Lib.hid s2
            have HY1 : Hid (u1.toList.take (L.length * 3) = ent x L) := by unfold Hid; rw [HLL.out]; exact y1
            have HY2 : Hid (u2.toList.take (L.reverse.length * 3) = ent x L.reverse) := by unfold Hid; rw [HLR.out]; exact y2
            unfold maxLen at m1 m2'
            clear HPA2 HPB2 e1 e2 f1 f2 ho1 ho2 s1 s2 y1 y2
            obtain ⟨w6, rfl⟩ : ∃ w6 : World, w6 = wr := ⟨_, rfl⟩
            go_wp2_with fail
            go_loopw [23] (fun v23 wr => ∃ (k d : Nat), k ≤ i ∧ v23 = .int .i64 k ∧ wr = w6.drewN d) (fun v23 _ => i - (intOf v23).toNat)
            case atStart => exact ⟨0, 0, Nat.zero_le _, rfl, rfl⟩
            case round =>
              obtain ⟨k, d, hk, rfl, rfl⟩ := hrel
              by_cases hlt : k < i
              · obtain ⟨r, hr⟩ : ∃ r, L[k]? = some r := ⟨_, List.getElem?_eq_getElem (by rw [HLL.out]; exact hlt)⟩
                obtain ⟨j, hj⟩ : ∃ j : Nat, j = i - 1 - k := ⟨_, rfl⟩
                have hr2 : L.reverse[j]? = some r := by
                  rw [List.getElem?_reverse (by rw [HLL.out]; omega), HLL.out, ← hr]
                  congr 1
                  omega
                obtain ⟨q0, q1, q2⟩ := ent_cells HY1.out hr
                obtain ⟨t0, t1, t2⟩ := ent_cells HY2.out hr2
                have x0 := HS1.out.cellv q0
                have x1 := HS1.out.cellv q1
                have x2 := HS1.out.cellv q2
                have x3 := HS2.out.cellv t0
                have x4 := HS2.out.cellv t1
                have x5 := HS2.out.cellv t2
                obtain ⟨bt, hbt⟩ : ∃ bt, x.isTop r = bt := ⟨_, rfl⟩
                rw [hbt] at x2 x5
                have hw1' : IntKind.i64.wrap ((i : Int) - 1) = (i : Int) - 1 := IntWalk.i64_in _ (by omega)
                have hw2' : IntKind.i64.wrap ((i : Int) - 1 - (k : Int)) = (j : Int) := by rw [IntWalk.i64_in _ (by omega)]; omega
                have j0 : (0 : Int) ≤ (j : Int) := by omega
                have j1 : (j : Int) < (i : Int) := by omega
                have kk0 : (0 : Int) ≤ (k : Int) := by omega
                have kk1 : (k : Int) < (i : Int) := by omega
                clear hr hr2 q0 q1 q2 t0 t1 t2 hbt hj
                go_wp2_with fail
                go_quiet (fail)
                go_wp2_with fail
                go_roundw
                case rel => exact ⟨k + 1, _, by omega, by go_num, rfl⟩
                case measure => simp [intOf]; omega
              · obtain rfl : k = i := by omega
                clear hlt
                go_wp2_with fail
                go_ret
                exact ⟨rfl, below_drewN' HBR.out _⟩

theorem walk (a0 : Bool) (a1 : Option Addr) (len1 cap1 : Nat) (z1 : List Int) (a2 : Option Addr) (len2 cap2 : Nat) (z2 : List Int) (a3 : Option Addr) (len3 cap3 : Nat) (z3 : List Int) (a4 : Option Addr) (len4 cap4 : Nat) (z4 : List Int) (w : World) (w1 : IsRow .u8 w a1 len1 cap1 z1) (w2 : IsRow .u8 w a2 len2 cap2 z2) (w3 : IsRow .u16 w a3 len3 cap3 z3) (w4 : IsRow .u32 w a4 len4 cap4 z4) :
    Calls Try.prog 5 #[.bool a0, .slice a1 len1 cap1, .slice a2 len2 cap2, .slice a3 len3 cap3, .slice a4 len4 cap4] w fun e w' => e = .returned (.bool true) ∧ Below w.heap.size w w' := by
  have hl : ∀ {k : IntKind} {a : Option Addr} {l c : Nat} {z : List Int}, IsRow k w a l c z → l ≤ 9223372036854775807 := fun h => by
    rcases h with ⟨_, h1, _⟩ | ⟨x, _, h1, h2, _⟩
    · omega
    · unfold maxLen at h2; omega
  by_cases h : 65536 < len1 ∨ 65536 < len2 ∨ 65536 < len3 ∨ 65536 < len4
  · exact early a0 a1 len1 cap1 a2 len2 cap2 a3 len3 cap3 a4 len4 cap4 w (hl w1) (hl w2) (hl w3) (hl w4) h
  · exact main a0 a1 len1 cap1 z1 a2 len2 cap2 z2 a3 len3 cap3 z3 a4 len4 cap4 z4 w (by omega) (by omega) (by omega) (by omega) w1 w2 w3 w4

end Go.Proofs.Ytailfkedgdlldaa.fnRecordDeclaredSymbolReverseScript
