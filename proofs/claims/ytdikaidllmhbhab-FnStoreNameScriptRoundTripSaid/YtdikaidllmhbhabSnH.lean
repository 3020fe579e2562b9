import Derived.Test.YtdikaidllmhbhabKit
import Derived.Test.YtdikaidllmhbhabSnG
import Derived.Deep.RegionLaw
import Derived.Deep.RegionLawGrows
namespace Go.Proofs.Ytdikaidllmhbhab.fnStoreNameScriptRoundTrip
open Go.ChangeShapes Go.WideShapes Go.ChangeAt Go.RowKit
set_option linter.unusedVariables false
set_option maxRecDepth 100000
set_option maxHeartbeats 2000000

theorem Sn.cells {w4 wr w2 : World} {B p RR RW n1 k : Nat} {ct : ByteArray} {L : List ByteArray} {r0 r1 : Nat → Int} {Wn : Nat → ByteArray} (h : Sn w4 wr B p RR RW n1 k ct L r0 r1 Wn) (hk : k < n1) (e1 : w2.heap[RR]? = wr.heap[RR]?) (e2 : w2.heap[RW]? = wr.heap[RW]?) :
    (∃ v0, w2.cell? ⟨RR, k * 2, none⟩ = some v0) ∧ (∃ v1, w2.cell? ⟨RR, k * 2 + 1, none⟩ = some v1) ∧ (∃ u, w2.cell? ⟨RW, k, none⟩ = some u) ∧ (∀ o, w2.frozen? ⟨RR, o, none⟩ = false) ∧ (∀ o, w2.frozen? ⟨RW, o, none⟩ = false) ∧ RR ≠ RW ∧ RR < w2.heap.size ∧ RW < w2.heap.size := by
  obtain ⟨cs, hr, hs, _⟩ := h.rf
  obtain ⟨ds, hd, hds, _⟩ := h.wn
  have hr2 : RowAt w2 RR cs 35 := e1.trans hr
  have hd2 : RowAt w2 RW ds 9 := e2.trans hd
  exact ⟨⟨_, hr2.cellv (Array.getElem?_eq_getElem (by omega))⟩, ⟨_, hr2.cellv (Array.getElem?_eq_getElem (by omega))⟩, ⟨_, hd2.cellv (Array.getElem?_eq_getElem (by omega))⟩, hr2.frozen, hd2.frozen, row_ne hr hd (by decide), hr2.lt, hd2.lt⟩
theorem store9n (pv : Value) (ct : ByteArray) (s n : Nat) (w : World) (h1 : 1 ≤ n) (h2 : s + n ≤ ct.size) (hc : ct.size ≤ 1048576) : Calls Try.prog 9 #[pv, .string (ct.extract s (s + n)), .int .u32 s] w fun e w' => e = .returned (.agg #[.int .u32 (4294967296 - (n : Int)), .int .u32 s]) ∧ Below w.heap.size w w' := by
  have hsz : (ct.extract s (s + n)).size = n := by rw [ByteArray.size_extract]; omega
  have := store9 pv (ct.extract s (s + n)) s w (by omega) (by omega) (by omega)
  unfold SF9 at this
  rw [hsz] at this
  exact this
theorem info35 : (Try.prog.info? 35).map (fun i => (i.zero, i.size, i.bytes)) = some (some (.agg #[.int .u32 0, .int .u32 0]), 2, 8) := by kernel_rfl

set_option maxHeartbeats 16000000 in
theorem walkIn (ct : ByteArray) (a1 : Option Addr) (n1 c1' : Nat) (S : Nat → ByteArray) (a2 : Option Addr) (n2 c2' : Nat) (Bf : Nat → Bool) (a3 : Option Addr) (n3 c3' : Nat) (U : Nat → Int) (a4 : Option Addr) (n4 c4' : Nat) (V : Nat → Int) (w : World)
    (mc : ct.size ≤ 9223372036854775807) (m1 : n1 ≤ 9223372036854775807) (m2 : n2 ≤ 9223372036854775807) (m3 : n3 ≤ 9223372036854775807) (m4 : n4 ≤ 9223372036854775807)
    (h1 : a1 = none → n1 = 0 ∧ c1' = 0) (h2 : a2 = none → n2 = 0 ∧ c2' = 0) (h3 : a3 = none → n3 = 0 ∧ c3' = 0) (h4 : a4 = none → n4 = 0 ∧ c4' = 0)
    (v1 : Vals w a1 n1 (fun i => .string (S i))) (v2 : Vals w a2 n2 (fun i => .bool (Bf i))) (v3 : Vals w a3 n3 (fun i => .int .u32 (U i))) (v4 : Vals w a4 n4 (fun i => .int .u32 (V i)))
    (s1 : ∀ i, i < n1 → (S i).size ≤ 9223372036854775807) (bu : ∀ i, i < n3 → 0 ≤ U i ∧ U i ≤ 4294967295) (bv : ∀ i, i < n4 → 0 ≤ V i ∧ V i ≤ 4294967295) :
    Calls Try.prog 3 #[.string ct, .slice a1 n1 c1', .slice a2 n2 c2', .slice a3 n3 c3', .slice a4 n4 c4'] w fun e w' => e = .returned (.bool true) ∧ Below w.heap.size w w' := by
  obtain ⟨i0, hi, hz0, hz1, hz2⟩ := info_parts info35
  obtain ⟨j0, gi, gz0, gz1, gz2⟩ := info_parts info9
  have HZ := Lib.hid (zz4 ct a1 n1 c1' S a2 n2 c2' a3 n3 c3' a4 n4 c4' w mc m1 m2 m3 m4 v1 s1)
  have V1 := Lib.hid v1
  have V2 := Lib.hid v2
  have V3 := Lib.hid v3
  have V4 := Lib.hid v4
  have N1 := Lib.hid h1
  have N2 := Lib.hid h2
  have N3 := Lib.hid h3
  have N4 := Lib.hid h4
  have HU := Lib.hid bu
  have HV := Lib.hid bv
  clear v1 v2 v3 v4 h1 h2 h3 h4 bu bv s1
  go_enter Try.func3, Try.ntmps3
  go_wp2_with fail
  refine HZ.out.mono ?_
  clear HZ
  rintro e u ⟨q, rfl, hq, rfl⟩
  cases q
  · clear hq
    go_wp2_with fail
    go_ret
    exact ⟨rfl, Below.refl _ _⟩
  obtain ⟨kc, k1, ks, k2, k3, k4⟩ := hq rfl
  have KS := Lib.hid ks
  clear hq ks
  by_cases g1 : 65536 < n1
  · go_wp2_with fail
    go_ret
    exact ⟨rfl, Below.refl _ _⟩
  by_cases g2 : 65536 < n2
  · go_wp2_with fail
    go_ret
    exact ⟨rfl, Below.refl _ _⟩
  by_cases g3 : 65536 < n3
  · go_wp2_with fail
    go_ret
    exact ⟨rfl, Below.refl _ _⟩
  by_cases g4 : 65536 < n4
  · go_wp2_with fail
    go_ret
    exact ⟨rfl, Below.refl _ _⟩
  by_cases g5 : 1048576 < ct.size + n2 + 4 * n3 + 4 * n4 + 16 * n1
  · go_wp2_with fail
    go_ret
    exact ⟨rfl, Below.refl _ _⟩
  go_wp2_with fail
  go_loop [11, 12] (fun v11 v12 => ∃ k t : Nat, k ≤ n1 ∧ v12 = .int .i64 k ∧ v11 = .int .i64 t ∧ t ≤ 1048576) (fun _ v12 => n1 - (intOf v12).toNat)
  case atStart => exact ⟨0, ct.size + n2 + 4 * n3 + 4 * n4 + 16 * n1, Nat.zero_le _, rfl, by go_num, by omega⟩
  case round =>
    obtain ⟨k, t, hk, rfl, rfl, ht⟩ := hrel
    by_cases hlt : k < n1
    · obtain ⟨x, rfl, hc0⟩ := V1.out k hlt
      have hc : w.cell? (x.add k) = some (.string (S k)) := hc0
      clear hc0
      have hz := KS.out k hlt
      obtain ⟨s, hs⟩ : ∃ s, S k = s := ⟨_, rfl⟩
      rw [hs] at hc hz
      clear hs
      by_cases g : 1048576 < t + s.size
      · go_wp2_with fail
        go_ret
        exact ⟨rfl, Below.refl _ _⟩
      · go_wp2_with fail
        go_round
        case rel => exact ⟨k + 1, t + s.size, by omega, by go_num, by go_num, by omega⟩
        case measure => simp [intOf]; omega
    obtain rfl : n1 = k := by omega
    clear hlt ht
    have HC1 := Lib.hid (cl5 a1 n1 c1' S w k1 N1.out V1.out)
    go_wp2_with fail
    refine HC1.out.mono ?_
    clear HC1
    rintro e w1 ⟨b1, rfl, d1, hb1⟩
    have D1 := Lib.hid d1
    have W1 := Lib.hid hb1
    have HC2 := Lib.hid (cl6 a2 n2 c2' Bf w1 k2 N2.out (Vals_below V2.out hb1))
    clear d1 hb1
    go_wp2_with fail
    refine HC2.out.mono ?_
    clear HC2
    rintro e w2 ⟨b2, rfl, d2, hb2⟩
    have D1' := Lib.hid (Vals_below D1.out hb2)
    have D2 := Lib.hid d2
    have W2 := Lib.hid (W1.out.trans (hb2.mono W1.out.size))
    have HC3 := Lib.hid (cl7 a3 n3 c3' U w2 k3 N3.out (Vals_below V3.out W2.out))
    clear d2 hb2 D1 W1
    go_wp2_with fail
    refine HC3.out.mono ?_
    clear HC3
    rintro e w3 ⟨b3, rfl, d3, hb3⟩
    have D1 := Lib.hid (Vals_below D1'.out hb3)
    have D2' := Lib.hid (Vals_below D2.out hb3)
    have D3 := Lib.hid d3
    have W3 := Lib.hid (W2.out.trans (hb3.mono W2.out.size))
    have HC4 := Lib.hid (cl7 a4 n4 c4' V w3 k4 N4.out (Vals_below V4.out W3.out))
    clear d3 hb3 D1' D2 W2
    go_wp2_with fail
    refine HC4.out.mono ?_
    clear HC4
    rintro e w4 ⟨b4, rfl, d4, hb4⟩
    have D1' := Lib.hid (Vals_below D1.out hb4)
    have D2 := Lib.hid (Vals_below D2'.out hb4)
    have D3' := Lib.hid (Vals_below D3.out hb4)
    have D4 := Lib.hid d4
    have HW4 := Lib.hid (W3.out.trans (hb4.mono W3.out.size))
    clear d4 hb4 D1 D2' D3 W3 V1 V2 V3 V4 N1 N2 N3 N4
    have D1 := D1'
    have D3 := D3'
    clear D1' D3'
    go_wp2_with fail
    refine (new8 ct w4).mono ?_
    rintro e w5 ⟨p, pcs, rfl, hp, p60, p103, c0, hb5⟩
    have HP := Lib.hid hp
    have HP60 := Lib.hid p60
    have HP103 := Lib.hid p103
    have HB5 := Lib.hid hb5
    clear hp p60 p103 hb5
    go_wp2_with (first
      | (at_make; refine wpList_make_full _ rfl _ _ 31 rfl w5.heap.size 35 i0 _ 2 Try.underlying31 hi hz0 hz1 .i64 .i64 _ _ n1 rfl rfl rfl rfl (by rw [hz2]; omega) (by unfold maxLen; omega) (Nat.le_refl _) ?_; intro w6 hown6 hg6; have HO6 := Lib.hid hown6; have HG6 := Lib.hid hg6; clear hown6 hg6)
      | (at_make; refine wpList_make_full _ rfl _ _ 22 rfl w6.heap.size 9 j0 _ 1 Try.underlying22 gi gz0 gz1 .i64 .i64 _ _ n1 rfl rfl rfl rfl (by rw [gz2]; omega) (by unfold maxLen; omega) (Nat.le_refl _) ?_; intro w7 hown7 hg7; have HO7 := Lib.hid hown7; have HG7 := Lib.hid hg7; clear hown7 hg7))
    clear hi hz0 hz1 hz2 gi gz0 gz1 gz2 i0 j0
    have hb6 : Below w5.heap.size w5 w6 := (Below.refl _ _).grown HG6.out (Nat.le_refl _) (fun k hk => by cases hk)
    have hb7 : Below w6.heap.size w6 w7 := (Below.refl _ _).grown HG7.out (Nat.le_refl _) (fun k hk => by cases hk)
    obtain ⟨cr, hcr, hsr, _⟩ := RowAt.of_owns HO6.out
    obtain ⟨cw, hcw, hsw, _⟩ := RowAt.of_owns HO7.out
    have c1 : w4.heap.size ≤ w5.heap.size := HB5.out.size
    have c2 : w4.heap.size ≤ w6.heap.size := Nat.le_trans c1 hb6.size
    have hRR : w5.heap.size < w7.heap.size := by
      have h1 := hcr.lt
      have h2 := hb7.size
      omega
    have hRW : w6.heap.size < w7.heap.size := hcw.lt
    have hS0 : Sn w4 w7 w7.heap.size p w5.heap.size w6.heap.size n1 0 ct [] (fun _ => 0) (fun _ => 0) (fun _ => ⟨#[]⟩) := by
      refine ⟨⟨pcs, .slice none 0 0, (HP.out.below hb6 HP.out.lt).below hb7 (HP.out.below hb6 HP.out.lt).lt, HP60.out, HP103.out, ⟨rfl, .inl ⟨rfl, rfl⟩⟩⟩, ⟨cr, hcr.below hb7 hcr.lt, hsr, fun i hi => by omega⟩, ⟨cw, hcw, by omega, fun i hi => by omega⟩, fun i hi => by omega, Nat.le_refl _, ?_, Nat.le_refl _⟩
      exact HB5.out.trans ((hb6.trans (hb7.mono hb6.size)).mono HB5.out.size)
    clear HO6 HO7 HG6 HG7 hb6 hb7 hcr hsr hcw hsw HP HP60 HP103 HB5
    generalize w5.heap.size = RR at c1 hRR hS0 ⊢
    generalize w6.heap.size = RW at c2 hRW hS0 ⊢
    obtain ⟨B, hBB⟩ : ∃ B, w7.heap.size = B := ⟨_, rfl⟩
    rw [hBB] at hRR hRW hS0
    clear hBB
    have HS0 := Lib.hid hS0
    clear hS0
    go_loopw [16] (fun v16 wr => ∃ (k : Nat) (L : List ByteArray) (r0 r1 : Nat → Int) (Wn : Nat → ByteArray), k ≤ n1 ∧ v16 = .int .i64 k ∧ Sn w4 wr B p RR RW n1 k ct L r0 r1 Wn) (fun v16 _ => n1 - (intOf v16).toNat)
    case atStart => exact ⟨0, _, _, _, _, Nat.zero_le _, rfl, HS0.out⟩
    case round =>
      clear HS0 hk
      obtain ⟨k, L, r0, r1, Wn, hk, rfl, hS⟩ := hrel
      have HS := Lib.hid hS
      clear hS
      by_cases hlt : k < n1
      · obtain ⟨x, rfl, hc1⟩ := D1.out k hlt
        have cn : wr.cell? (x.add k) = some (.string (S k)) := later hc1 HS.out.bl
        clear hc1
        by_cases h2 : k < n2
        · by_cases h3 : k < n3
          · by_cases h4 : k < n4
            · obtain ⟨y, rfl, hc2⟩ := D2.out k h2
              have ci : wr.cell? (y.add k) = some (.bool (Bf k)) := later hc2 HS.out.bl
              clear hc2
              obtain ⟨bk, hbk⟩ : ∃ b, Bf k = b := ⟨_, rfl⟩
              rw [hbk] at ci
              clear hbk
              cases bk
              · have HA := Lib.hid (store10 B p ct (S k) L wr HS.out.bB (by have := HS.out.ll; omega) HS.out.pn)
                go_wp2_with fail
                refine HA.out.mono ?_
                clear HA
                rintro e w2 ⟨rfl, hpn, hfr, hkp⟩
                have HS2 := Lib.hid (HS.out.stepA hlt hRW hRR c0 c1 c2 hpn hfr)
                obtain ⟨qs, V, qp, _⟩ := id HS.out.pn
                obtain ⟨⟨v0, t0⟩, ⟨v1, t1⟩, ⟨u, t2⟩, fr, fw, hne, yr, yw⟩ := HS.out.cells hlt (hfr.block RR hRR (by obtain ⟨cs, hr, _⟩ := HS.out.rf; exact row_ne hr qp (by decide))) (hfr.block RW hRW (by obtain ⟨cs, hr, _⟩ := HS.out.wn; exact row_ne hr qp (by decide)))
                clear hpn hfr hkp qp HS
                go_wp2_with fail
                go_roundw
                case rel => exact ⟨k + 1, L ++ [S k], _, _, _, by omega, by go_num, HS2.out⟩
                case measure => simp [intOf]; omega
              · obtain ⟨y3, rfl, hc3⟩ := D3.out k h3
                have cs3 : wr.cell? (y3.add k) = some (.int .u32 (U k)) := later hc3 HS.out.bl
                obtain ⟨y4, rfl, hc4⟩ := D4.out k h4
                have cs4 : wr.cell? (y4.add k) = some (.int .u32 (V k)) := later hc4 HS.out.bl
                clear hc3 hc4
                obtain ⟨u0, u1⟩ := HU.out k h3
                obtain ⟨v0', v1'⟩ := HV.out k h4
                obtain ⟨s, hs⟩ : ∃ s : Nat, U k = s := ⟨(U k).toNat, by omega⟩
                obtain ⟨n, hn⟩ : ∃ n : Nat, V k = n := ⟨(V k).toNat, by omega⟩
                rw [hs] at cs3 u0 u1
                rw [hn] at cs4 v0' v1'
                clear hs hn
                have e1 : IntKind.u64.wrap (s : Int) = s := by simp only [IntKind.wrap, IntKind.bits, IntKind.signed]; simp; omega
                have e2 : IntKind.u64.wrap (n : Int) = n := by simp only [IntKind.wrap, IntKind.bits, IntKind.signed]; simp; omega
                have e3 : IntKind.u64.wrap ((s : Int) + n) = (s : Int) + n := by simp only [IntKind.wrap, IntKind.bits, IntKind.signed]; simp; omega
                have e4 : IntKind.u64.wrap (ct.size : Int) = ct.size := by simp only [IntKind.wrap, IntKind.bits, IntKind.signed]; simp; omega
                by_cases h0 : 0 < n
                · by_cases hf : s + n ≤ ct.size
                  · have e5 : IntKind.u32.wrap ((s : Int) + n) = (s : Int) + n := by simp only [IntKind.wrap, IntKind.bits, IntKind.signed]; simp; omega
                    have HF := Lib.hid (fun pv => store9n pv ct s n wr (by omega) (by omega) kc)
                    have hsl : ∀ W, (Instr.slice 9 (.string ct) (some (.int .u32 s)) (some (.int .u32 ((s : Int) + n))) none).run Try.prog W = .ok (.string (ct.extract s (s + n))) W := fun W => by
                      have := run_slice_string W 9 ct .u32 .u32 (s : Int) ((s : Int) + n) Try.underlying9 (by omega) (by omega) (by omega)
                      rw [show ((s : Int) + n).toNat = s + n by omega, Int.toNat_natCast] at this
                      exact this
                    go_wp2_with fail
                    refine (HF.out _).mono ?_
                    clear HF hsl
                    rintro e w2 ⟨rfl, hb2⟩
                    have hbB := HS.out.bB
                    have HS2 := Lib.hid (HS.out.stepF hlt hRW hRR c1 c2 hb2 (show 1 ≤ n by omega) (show n ≤ 1048576 by omega) (show s + n ≤ ct.size by omega))
                    obtain ⟨⟨v0, t0⟩, ⟨v1, t1⟩, ⟨u, t2⟩, fr, fw, hne, yr, yw⟩ := HS.out.cells hlt (hb2.block RR (by omega)) (hb2.block RW (by omega))
                    clear hb2 HS
                    go_wp2_with fail
                    go_roundw
                    case rel => exact ⟨k + 1, L, _, _, _, by omega, by go_num, HS2.out⟩
                    case measure => simp [intOf]; omega
                  · have HA := Lib.hid (store10 B p ct (S k) L wr HS.out.bB (by have := HS.out.ll; omega) HS.out.pn)
                    go_wp2_with fail
                    refine HA.out.mono ?_
                    clear HA
                    rintro e w2 ⟨rfl, hpn, hfr, hkp⟩
                    have HS2 := Lib.hid (HS.out.stepA hlt hRW hRR c0 c1 c2 hpn hfr)
                    obtain ⟨qs, V, qp, _⟩ := id HS.out.pn
                    obtain ⟨⟨v0, t0⟩, ⟨v1, t1⟩, ⟨u, t2⟩, fr, fw, hne, yr, yw⟩ := HS.out.cells hlt (hfr.block RR hRR (by obtain ⟨cs, hr, _⟩ := HS.out.rf; exact row_ne hr qp (by decide))) (hfr.block RW hRW (by obtain ⟨cs, hr, _⟩ := HS.out.wn; exact row_ne hr qp (by decide)))
                    clear hpn hfr hkp qp HS
                    go_wp2_with fail
                    go_roundw
                    case rel => exact ⟨k + 1, L ++ [S k], _, _, _, by omega, by go_num, HS2.out⟩
                    case measure => simp [intOf]; omega
                · have HA := Lib.hid (store10 B p ct (S k) L wr HS.out.bB (by have := HS.out.ll; omega) HS.out.pn)
                  go_wp2_with fail
                  refine HA.out.mono ?_
                  clear HA
                  rintro e w2 ⟨rfl, hpn, hfr, hkp⟩
                  have HS2 := Lib.hid (HS.out.stepA hlt hRW hRR c0 c1 c2 hpn hfr)
                  obtain ⟨qs, V, qp, _⟩ := id HS.out.pn
                  obtain ⟨⟨v0, t0⟩, ⟨v1, t1⟩, ⟨u, t2⟩, fr, fw, hne, yr, yw⟩ := HS.out.cells hlt (hfr.block RR hRR (by obtain ⟨cs, hr, _⟩ := HS.out.rf; exact row_ne hr qp (by decide))) (hfr.block RW hRW (by obtain ⟨cs, hr, _⟩ := HS.out.wn; exact row_ne hr qp (by decide)))
                  clear hpn hfr hkp qp HS
                  go_wp2_with fail
                  go_roundw
                  case rel => exact ⟨k + 1, L ++ [S k], _, _, _, by omega, by go_num, HS2.out⟩
                  case measure => simp [intOf]; omega
            · have HA := Lib.hid (store10 B p ct (S k) L wr HS.out.bB (by have := HS.out.ll; omega) HS.out.pn)
              go_wp2_with fail
              refine HA.out.mono ?_
              clear HA
              rintro e w2 ⟨rfl, hpn, hfr, hkp⟩
              have HS2 := Lib.hid (HS.out.stepA hlt hRW hRR c0 c1 c2 hpn hfr)
              obtain ⟨qs, V, qp, _⟩ := id HS.out.pn
              obtain ⟨⟨v0, t0⟩, ⟨v1, t1⟩, ⟨u, t2⟩, fr, fw, hne, yr, yw⟩ := HS.out.cells hlt (hfr.block RR hRR (by obtain ⟨cs, hr, _⟩ := HS.out.rf; exact row_ne hr qp (by decide))) (hfr.block RW hRW (by obtain ⟨cs, hr, _⟩ := HS.out.wn; exact row_ne hr qp (by decide)))
              clear hpn hfr hkp qp HS
              go_wp2_with fail
              go_roundw
              case rel => exact ⟨k + 1, L ++ [S k], _, _, _, by omega, by go_num, HS2.out⟩
              case measure => simp [intOf]; omega
          · have HA := Lib.hid (store10 B p ct (S k) L wr HS.out.bB (by have := HS.out.ll; omega) HS.out.pn)
            go_wp2_with fail
            refine HA.out.mono ?_
            clear HA
            rintro e w2 ⟨rfl, hpn, hfr, hkp⟩
            have HS2 := Lib.hid (HS.out.stepA hlt hRW hRR c0 c1 c2 hpn hfr)
            obtain ⟨qs, V, qp, _⟩ := id HS.out.pn
            obtain ⟨⟨v0, t0⟩, ⟨v1, t1⟩, ⟨u, t2⟩, fr, fw, hne, yr, yw⟩ := HS.out.cells hlt (hfr.block RR hRR (by obtain ⟨cs, hr, _⟩ := HS.out.rf; exact row_ne hr qp (by decide))) (hfr.block RW hRW (by obtain ⟨cs, hr, _⟩ := HS.out.wn; exact row_ne hr qp (by decide)))
            clear hpn hfr hkp qp HS
            go_wp2_with fail
            go_roundw
            case rel => exact ⟨k + 1, L ++ [S k], _, _, _, by omega, by go_num, HS2.out⟩
            case measure => simp [intOf]; omega
        · have HA := Lib.hid (store10 B p ct (S k) L wr HS.out.bB (by have := HS.out.ll; omega) HS.out.pn)
          go_wp2_with fail
          refine HA.out.mono ?_
          clear HA
          rintro e w2 ⟨rfl, hpn, hfr, hkp⟩
          have HS2 := Lib.hid (HS.out.stepA hlt hRW hRR c0 c1 c2 hpn hfr)
          obtain ⟨qs, V, qp, _⟩ := id HS.out.pn
          obtain ⟨⟨v0, t0⟩, ⟨v1, t1⟩, ⟨u, t2⟩, fr, fw, hne, yr, yw⟩ := HS.out.cells hlt (hfr.block RR hRR (by obtain ⟨cs, hr, _⟩ := HS.out.rf; exact row_ne hr qp (by decide))) (hfr.block RW hRW (by obtain ⟨cs, hr, _⟩ := HS.out.wn; exact row_ne hr qp (by decide)))
          clear hpn hfr hkp qp HS
          go_wp2_with fail
          go_roundw
          case rel => exact ⟨k + 1, L ++ [S k], _, _, _, by omega, by go_num, HS2.out⟩
          case measure => simp [intOf]; omega
      · obtain rfl : n1 = k := by omega
        clear hlt
        obtain ⟨wo, rfl⟩ : ∃ wo : World, wo = wr := ⟨_, rfl⟩
        go_wp2_with fail
        go_loopw [21] (fun v21 wx => ∃ i : Nat, i ≤ n1 ∧ v21 = .int .i64 i ∧ Below wo.heap.size wo wx) (fun v21 _ => n1 - (intOf v21).toNat)
        case atStart => exact ⟨0, Nat.zero_le _, rfl, Below.refl _ _⟩
        case round =>
          obtain ⟨i, hi, rfl, hbx⟩ := hrel
          by_cases hlt : i < n1
          · obtain ⟨cs, hr, hs, hx⟩ := id HS.out.rf
            have hr2 := hr.below hbx hr.lt
            have hw2 := HS.out.wn.below hbx HS.out.wn.lt
            have a0 := hr2.cellv (hx i hlt).1
            have a1 := hr2.cellv (hx i hlt).2
            have a2 : _ = some (Value.string (Wn i)) := hw2.cell hlt
            have HLd := Lib.hid (fun W (hb : Below wo.heap.size wo W) => (HS.out.ok i hlt).load kc (by have := HS.out.ll; omega) (HS.out.pn.below hb))
            obtain ⟨nm, hnm⟩ : ∃ nm, Wn i = nm := ⟨_, rfl⟩
            obtain ⟨q0, hq0⟩ : ∃ q, r0 i = q := ⟨_, rfl⟩
            obtain ⟨q1, hq1⟩ : ∃ q, r1 i = q := ⟨_, rfl⟩
            rw [hnm, hq0, hq1] at HLd
            rw [hnm] at a2
            rw [hq0] at a0
            rw [hq1] at a1
            have HBX := Lib.hid hbx
            have zr := hr2.lt
            have zw := hw2.lt
            have HR2 := Lib.hid hr2
            have HW2 := Lib.hid hw2
            clear hnm hq0 hq1 hr hs hx hr2 hw2 hbx
            go_wp2_with fail
            refine wp_region_held_drew (S := fun w' => w'.cell? ⟨RR, i * 2, none⟩ = some (.int .u32 q0) ∧ w'.cell? ⟨RR, i * 2 + 1, none⟩ = some (.int .u32 q1) ∧ w'.cell? ⟨RW, i, none⟩ = some (.string nm)) (by kernel_rfl) (by go_keep) (fun hHeld => ?_)
            refine wpAnyH_take (i := 0) (v := ?_) rfl (by kernel_rfl) (by kernel_rfl) (by kernel_rfl) (fun _ _ _ h => h) (Or.inl ⟨by rfl, ?_⟩) (by assumption) ?_
            rotate_left
            · (intro w' hSw; (try dsimp only at hSw); go_simp; with_reducible rfl)
            try simp only [List.getElem_toArray, List.getElem_cons_zero, List.getElem_cons_succ, Act.put, List.setIfInBounds_toArray, List.set_cons_zero, List.set_cons_succ]
            refine wpAnyH_take (i := 1) (v := ?_) rfl (by kernel_rfl) (by kernel_rfl) (by kernel_rfl) (fun _ _ _ h => h) (Or.inl ⟨by rfl, ?_⟩) (by assumption) ?_
            rotate_left
            · (intro w' hSw; (try dsimp only at hSw); go_simp; with_reducible rfl)
            try simp only [List.getElem_toArray, List.getElem_cons_zero, List.getElem_cons_succ, Act.put, List.setIfInBounds_toArray, List.set_cons_zero, List.set_cons_succ]
            refine wpAnyH_take (i := 2) (v := ?_) rfl (by kernel_rfl) (by kernel_rfl) (by kernel_rfl) (fun _ _ _ h => h) (Or.inl ⟨by rfl, ?_⟩) (by assumption) ?_
            rotate_left
            · (intro w' hSw; (try dsimp only at hSw); go_simp; with_reducible rfl)
            try simp only [List.getElem_toArray, List.getElem_cons_zero, List.getElem_cons_succ, Act.put, List.setIfInBounds_toArray, List.set_cons_zero, List.set_cons_succ]
            refine wpAnyH_take (i := 3) (v := ?_) rfl (by kernel_rfl) (by kernel_rfl) (by kernel_rfl) (fun _ _ _ h => h) (Or.inl ⟨by rfl, ?_⟩) (by assumption) ?_
            rotate_left
            · (intro w' hSw; (try dsimp only at hSw); go_simp; with_reducible rfl)
            try simp only [List.getElem_toArray, List.getElem_cons_zero, List.getElem_cons_succ, Act.put, List.setIfInBounds_toArray, List.set_cons_zero, List.set_cons_succ]
            refine wpAnyH_take (i := 4) (v := ?_) rfl (by kernel_rfl) (by kernel_rfl) (by kernel_rfl) (fun _ _ _ h => h) (Or.inl ⟨by rfl, ?_⟩) (by assumption) ?_
            rotate_left
            · (intro w' hSw; (try dsimp only at hSw); go_simp; with_reducible rfl)
            try simp only [List.getElem_toArray, List.getElem_cons_zero, List.getElem_cons_succ, Act.put, List.setIfInBounds_toArray, List.set_cons_zero, List.set_cons_succ]
            refine wpAnyH_take (i := 6) (v := ?_) rfl (by kernel_rfl) (by kernel_rfl) (by kernel_rfl) (fun _ _ _ h => h) (Or.inl ⟨by rfl, ?_⟩) (by assumption) ?_
            rotate_left
            · (intro w' hSw; (try dsimp only at hSw); go_simp; with_reducible rfl)
            try simp only [List.getElem_toArray, List.getElem_cons_zero, List.getElem_cons_succ, Act.put, List.setIfInBounds_toArray, List.set_cons_zero, List.set_cons_succ]
            refine wpAnyH_take (i := 7) (v := ?_) rfl (by kernel_rfl) (by kernel_rfl) (by kernel_rfl) (fun _ _ _ h => h) (Or.inl ⟨by rfl, ?_⟩) (by assumption) ?_
            rotate_left
            · (intro w' hSw; (try dsimp only at hSw); go_simp; with_reducible rfl)
            try simp only [List.getElem_toArray, List.getElem_cons_zero, List.getElem_cons_succ, Act.put, List.setIfInBounds_toArray, List.set_cons_zero, List.set_cons_succ]
            refine wpAnyH_take (i := 8) (v := ?_) rfl (by kernel_rfl) (by kernel_rfl) (by kernel_rfl) (fun _ _ _ h => h) (Or.inl ⟨by rfl, ?_⟩) (by assumption) ?_
            rotate_left
            · (intro w' hSw; (try dsimp only at hSw); go_simp; with_reducible rfl)
            try simp only [List.getElem_toArray, List.getElem_cons_zero, List.getElem_cons_succ, Act.put, List.setIfInBounds_toArray, List.set_cons_zero, List.set_cons_succ]
            refine wpAnyH_take (i := 9) (v := ?_) rfl (by kernel_rfl) (by kernel_rfl) (by kernel_rfl) (fun _ _ _ h => h) (Or.inl ⟨by rfl, ?_⟩) (by assumption) ?_
            rotate_left
            · (intro w' hSw; (try dsimp only at hSw); go_simp; with_reducible rfl)
            try simp only [List.getElem_toArray, List.getElem_cons_zero, List.getElem_cons_succ, Act.put, List.setIfInBounds_toArray, List.set_cons_zero, List.set_cons_succ]
            refine wpAnyH_ready (rs := [5]) (by kernel_rfl) (by simp) ?_
            refine AllReadyH.cons rfl (fun K hK => ?_) AllReadyH.nil
            simp only [List.getElem_toArray, List.getElem_cons_zero, List.getElem_cons_succ]
            go_simp
            refine (HLd.out _ (HBX.out.trans ((Below.refl _ _).drew.mono HBX.out.size))).mono ?_
            rintro e wy ⟨rfl, hby⟩
            have HBY : Hid (Below wo.heap.size wo wy) := (HBX.out.trans ((Below.refl _ _).drew.mono HBX.out.size)).trans (hby.mono (by have := HBX.out.size; exact this))
            have j0 := (hby.cell (p := ⟨RR, i * 2, none⟩) zr).trans a0
            have j1 := (hby.cell (p := ⟨RR, i * 2 + 1, none⟩) zr).trans a1
            have j2 := (hby.cell (p := ⟨RW, i, none⟩) zw).trans a2
            clear hby
            refine hK.out _ _ ⟨j0, j1, j2⟩ (fun hHeld => ?_)
            clear hK K
            try simp only [List.getElem_toArray, List.getElem_cons_zero, List.getElem_cons_succ, Act.put, List.setIfInBounds_toArray, List.set_cons_zero, List.set_cons_succ]
            refine wpAnyH_take (i := 10) (v := ?_) rfl (by kernel_rfl) (by kernel_rfl) (by kernel_rfl) (fun _ _ _ h => h) (Or.inl ⟨by rfl, ?_⟩) (by assumption) ?_
            rotate_left
            · (intro w' hSw; (try dsimp only at hSw); go_simp; with_reducible rfl)
            try simp only [List.getElem_toArray, List.getElem_cons_zero, List.getElem_cons_succ, Act.put, List.setIfInBounds_toArray, List.set_cons_zero, List.set_cons_succ]
            refine wpAnyH_done (by kernel_rfl) ?_ _
            go_wp2_with fail
            go_roundw
            case rel => exact ⟨i + 1, by omega, by go_num, HBY.out⟩
            case measure => simp [intOf]; omega
          · go_wp2_with fail
            go_ret
            exact ⟨rfl, HW4.out.trans ((HS.out.bl.trans (hbx.mono HS.out.bl.size)).mono HW4.out.size)⟩

end Go.Proofs.Ytdikaidllmhbhab.fnStoreNameScriptRoundTrip
