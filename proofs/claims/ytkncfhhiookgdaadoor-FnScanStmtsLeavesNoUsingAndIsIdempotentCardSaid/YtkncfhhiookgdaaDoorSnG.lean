import Derived.Test.YtkncfhhiookgdaaDoorKit
import Derived.Test.YtkncfhhiookgdaaDoorSnF
namespace Go.Proofs.YtkncfhhiookgdaaDoor
open Go.ChangeShapes Go.WideShapes Go.ChangeAt Go.RowKit
set_option linter.unusedVariables false
set_option maxRecDepth 100000
set_option maxHeartbeats 2000000

open Go.Extern
theorem scan10 (c p n G : Nat) (w : World) (Q : Ending → World → Prop) (h : Calls Tryd.prog 20 #[ptr c, ptr p, .slice (some ⟨G, 0, none⟩) n n] w fun e w' => e = .returned (.tuple #[]) ∧ Q e w') :
    Calls Tryd.prog 10 #[ptr c, ptr p, .slice (some ⟨G, 0, none⟩) n n] w fun e w' => e = .returned (.tuple #[]) ∧ Q e w' := by
  have H := Lib.hid h
  clear h
  unfold ptr at H ⊢
  go_enter Tryd.func10, Tryd.ntmps10
  go_wp2_with fail
  refine H.out.mono ?_
  rintro e w1 ⟨rfl, hq⟩
  have HQ := Lib.hid hq
  clear hq
  go_wp2_with fail
  go_end0
  exact ⟨rfl, HQ.out⟩
theorem ST.kp {w w' : World} {n G Lr : Nat} {lb : Nat → Option Nat} {eb : Nat → Nat} {st kd : Nat → Int} (h : ST w n G Lr lb eb st kd) (hk : Kp w w') : ST w' n G Lr lb eb st kd :=
  ⟨h.stm.moved fun es r => hk _ _ _ r (by decide) (by decide), h.loc.moved fun es r => hk _ _ _ r (by decide) (by decide), fun i b hi hb => (h.row i b hi hb).moved fun j es t r ht => hk _ _ _ r (by rcases ht with rfl | rfl <;> decide) (by rcases ht with rfl | rfl <;> decide), h.inj⟩
theorem info47 : (Tryd.prog.info? 47).map (fun i => (i.zero, i.size, i.bytes)) = some (some (.int .u8 0), 1, 1) := by kernel_rfl
theorem big (a0 : Option Addr) (len0 cap0 : Nat) (a1 : Option Addr) (len1 cap1 : Nat) (p q r s t : Bool) (w : World) (h0 : len0 ≤ 9223372036854775807) (h1 : len1 ≤ 9223372036854775807) (h : 4096 < len0 ∨ 4096 < len1) :
    Calls Tryd.prog 3 #[.slice a0 len0 cap0, .slice a1 len1 cap1, .bool p, .bool q, .bool r, .bool s, .bool t] w fun e w' => e = .returned (.bool true) ∧ Below w.heap.size w w' := by
  by_cases hA : 4096 < len0
  · clear h
    go_enter Tryd.func3, Tryd.ntmps3
    go_wp2_with fail
    refine (zz4 _ _ _ _ _ _ _ _ _ _ _ _ h0 h1).mono ?_
    rintro e w1 ⟨b, rfl, rfl⟩
    cases b
    · go_wp2_with fail
      go_ret
      exact ⟨rfl, Below.refl _ _⟩
    · go_wp2_with fail
      go_ret
      exact ⟨rfl, Below.refl _ _⟩
  · have hB : 4096 < len1 := by omega
    clear h
    go_enter Tryd.func3, Tryd.ntmps3
    go_wp2_with fail
    refine (zz4 _ _ _ _ _ _ _ _ _ _ _ _ h0 h1).mono ?_
    rintro e w1 ⟨b, rfl, rfl⟩
    cases b
    · go_wp2_with fail
      go_ret
      exact ⟨rfl, Below.refl _ _⟩
    · go_wp2_with fail
      go_ret
      exact ⟨rfl, Below.refl _ _⟩
set_option maxHeartbeats 8000000 in
theorem main (a0 : Option Addr) (len0 cap0 : Nat) (z0 : List Int) (a1 : Option Addr) (len1 cap1 : Nat) (z1 : List Int) (ww pn cl bu mi : Bool) (w : World) (w0 : IsRow .u8 w a0 len0 cap0 z0) (w1 : IsRow .i32 w a1 len1 cap1 z1) (h0 : len0 ≤ 4096) (h1 : len1 ≤ 4096) (hI : IR w) :
    Calls Tryd.prog 3 #[.slice a0 len0 cap0, .slice a1 len1 cap1, .bool ww, .bool pn, .bool cl, .bool bu, .bool mi] w fun e w' => e = .returned (.bool true) ∧ Below w.heap.size w w' := by
  obtain ⟨i0, hi, hz0, hz1, hz2⟩ := info_parts info47
  have W0 := Lib.hid w0
  have W1 := Lib.hid w1
  have HI := Lib.hid hI
  clear w0 w1 hI
  go_enter Tryd.func3, Tryd.ntmps3
  go_wp2_with fail
  refine (zz4 _ _ _ _ _ _ _ _ _ _ _ _ (by omega) (by omega)).mono ?_
  rintro e w1 ⟨b, rfl, rfl⟩
  cases b
  · go_wp2_with fail
    go_ret
    exact ⟨rfl, Below.refl _ _⟩
  · go_wp2_with fail
    refine (kindsAny a0 len0 cap0 z0 w _ (Below.refl _ _) h0 W0.out).mono ?_
    rintro e w2 ⟨o0, d0, rfl, b2, hk⟩
    have HK := Lib.hid (And.intro b2 hk)
    clear hk b2
    go_wp2_with fail
    refine (startsAny a1 len1 cap1 z1 w _ HK.out.1 h1 W1.out).mono ?_
    rintro e w3 ⟨o1, d1, rfl, b3, hl⟩
    have HL := Lib.hid (And.intro b3 hl)
    clear hl b3
    obtain ⟨n, hn0, hn1, hn⟩ : ∃ n, n ≤ len0 ∧ n ≤ len1 ∧ (n = len0 ∧ len0 ≤ len1 ∨ n = len1 ∧ len1 < len0) := by
      by_cases h : len1 < len0
      · exact ⟨len1, by omega, by omega, .inr ⟨rfl, h⟩⟩
      · exact ⟨len0, by omega, by omega, .inl ⟨rfl, by omega⟩⟩
    go_upto_if 51 with fail
    go_cut [15] (fun v15 wx => v15 = .int .i64 n ∧ Below w3.heap.size w3 wx)
    case first =>
      rcases hn with ⟨rfl, hlt⟩ | ⟨rfl, hlt⟩
      · go_wp2_with fail
        go_meet
        exact ⟨rfl, Below.refl _ _⟩
      · go_wp2_with fail
        go_meet
        exact ⟨rfl, Below.refl _ _⟩
    case rest =>
      obtain ⟨rfl, bc⟩ := hcut
      have HC := Lib.hid bc
      clear bc
      go_wp2_with fail
      refine (scan7 ww pn cl bu mi wc).mono ?_
      rintro e w4 ⟨p, cu, f, md, o, es, rfl, hP, hcu, he, hp, b4⟩
      have H4 := Lib.hid (And.intro hP (And.intro hcu (And.intro he (And.intro hp b4))))
      have B4 : Below w.heap.size w w4 := (HK.out.1.trans (HL.out.1.mono HK.out.1.size)).trans ((HC.out.mono (HK.out.1.trans (HL.out.1.mono HK.out.1.size)).size).trans (b4.mono ((HK.out.1.trans (HL.out.1.mono HK.out.1.size)).trans (HC.out.mono (HK.out.1.trans (HL.out.1.mono HK.out.1.size)).size)).size))
      have HB4 := Lib.hid B4
      have l4 : w3.heap.size ≤ w4.heap.size := Nat.le_trans HC.out.size b4.size
      clear hP hcu he hp b4 B4
      unfold ptr
      go_wp2_with fail
      refine (build8 o0 o1 len0 d0 len1 d1 n (fun i => z0.getD i 0) (fun i => z1.getD i 0) w4 (by omega) hn0 hn1 (fun i hi => ?_) (fun i hi => ?_)).mono ?_
      · obtain ⟨x, rfl, h1, h2⟩ := HK.out.2 i (by omega)
        exact ⟨x, rfl, later (later (later h1 HL.out.1) HC.out) H4.out.2.2.2.2, h2⟩
      · obtain ⟨x, rfl, h1⟩ := HL.out.2 i (by omega)
        exact ⟨x, rfl, later (later h1 HC.out) H4.out.2.2.2.2⟩
      rintro e w5 ⟨G, Lr, lb, eb, kd, rfl, hS, b5⟩
      have hST : ST w5 n G Lr lb eb (fun i => z1.getD i 0) kd := ⟨hS.stm.congr fun i hi j hj => by simp [hi], hS.loc.congr fun i hi => by simp [hi], fun i b hi hl => (hS.row i b hi hl).1, hS.inj⟩
      have hb5 : ∀ i b, i < n → lb i = some b → wc.heap.size ≤ b := fun i b hi hl => Nat.le_trans H4.out.2.2.2.2.size (hS.row i b hi hl).2.1
      have HS5 := Lib.hid (And.intro hST (And.intro hb5 b5))
      have HP5 := Lib.hid (H4.out.1.moved (K39.of_below b5).k2)
      have HI5 := Lib.hid (HI.out.below (HB4.out.trans (b5.mono HB4.out.size)))
      have l5 := b5.size
      have l4' := H4.out.2.2.2.2.size
      clear hS hST hb5 b5
      go_wp2_with fail
      refine (ctx9 wc.heap.size p cu f md mi ww 0 wc.heap.size w5 HP5.out HI5.out (by omega) (by omega) (Nat.le_refl _) H4.out.2.2.2.1).mono ?_
      rintro e w6 ⟨rfl, hP6, k6, b6⟩
      have HS6 := Lib.hid (HS5.out.1.kp k6)
      have HP6 := Lib.hid hP6
      have HC6 := Lib.hid (k6 _ _ _ (H4.out.2.1.below HS5.out.2.2 H4.out.2.1.lt) (by decide) (by decide))
      have B6 : Below w.heap.size w w6 := (HB4.out.trans (HS5.out.2.2.mono HB4.out.size)).trans (b6.mono ((HK.out.1.trans (HL.out.1.mono HK.out.1.size)).trans (HC.out.mono (HK.out.1.trans (HL.out.1.mono HK.out.1.size)).size)).size)
      have HB6 := Lib.hid B6
      have l6 := b6.size
      clear hP6 k6 b6 B6
      go_wp2_with fail
      have b7 : Below w6.heap.size w6 (w6.alloc (.cells #[.int .i32 0, .int .u32 0, .int .u32 0, .bool false] 39)) := (Below.refl _ _).alloc (Nat.le_refl _) _
      have r7 := RowAt.new w6 #[.int .i32 0, .int .u32 0, .int .u32 0, .bool false] 39
      obtain ⟨c, hc⟩ : ∃ c, c = w6.heap.size := ⟨_, rfl⟩
      have lc : wc.heap.size ≤ c := by omega
      rw [← hc] at r7 ⊢
      generalize w6.alloc (.cells #[.int .i32 0, .int .u32 0, .int .u32 0, .bool false] 39) = w7 at b7 r7 ⊢
      have l7 := b7.size
      have lw : w.heap.size ≤ w6.heap.size := HB6.out.size
      have HLC := Lib.hid lc
      have H7 := Lib.hid (And.intro b7 r7)
      clear hc lc b7 r7
      refine (scan10 c p n G w7 _ (scan20 wc.heap.size p cu c n G Lr f md mi ww 1 lb eb (fun i => z1.getD i 0) kd 0 false wc.heap.size o es w7 (HS6.out.moved (K39.of_below H7.out.1)) (HP6.out.moved (K39.of_below H7.out.1).k2) (HC6.out.below H7.out.1 HC6.out.lt) H4.out.2.2.1 ⟨_, _, H7.out.2⟩ (by omega) HLC.out HS5.out.2.1 (by omega))).mono ?_
      rintro e w8 ⟨rfl, kd', v, q, hS, hD, _, _, k8, b8, _⟩
      have HS8 := Lib.hid hS
      have HD8 := Lib.hid hD
      have HP8 := Lib.hid ((HP6.out.moved (K39.of_below H7.out.1).k2).moved k8)
      have HC8 := Lib.hid (k8 _ _ _ (HC6.out.below H7.out.1 HC6.out.lt) (by decide) (by decide))
      have B8 : Below w.heap.size w w8 := (HB6.out.trans (H7.out.1.mono lw)).trans (b8.mono ((HK.out.1.trans (HL.out.1.mono HK.out.1.size)).trans (HC.out.mono (HK.out.1.trans (HL.out.1.mono HK.out.1.size)).size)).size)
      have HB8 := Lib.hid B8
      have l8 := b8.size
      clear hS hD k8 b8 B8
      go_wp2_with (at_make; refine wpList_make_full _ rfl _ _ 43 rfl w8.heap.size 47 i0 _ 1 Tryd.underlying43 hi hz0 hz1 .i64 .i64 _ _ n rfl rfl rfl rfl (by rw [hz2]; omega) (by unfold maxLen; omega) (Nat.le_refl _) ?_)
      intro w9 hown hgrow
      have b9 : Below w8.heap.size w8 w9 := (Below.refl _ _).grown hgrow (Nat.le_refl _) (fun k hk => by cases hk)
      have a9 : Cells w9 w8.heap.size 47 n (fun _ => .int .u8 0) := by
        have h' : w9.ownsRow w8.heap.size 47 1 (.slice (some ⟨w8.heap.size, 0, none⟩) n n) n (madeCells #[.int .u8 0] (n * 1)).toList := by simpa using hown
        have := Cells.made h'
        rw [Nat.mul_one] at this
        exact this.congr fun i _ => by simp [Nat.mod_one]
      obtain ⟨A, hA⟩ : ∃ A, A = w8.heap.size := ⟨_, rfl⟩
      rw [← hA] at a9 ⊢
      have H9 := Lib.hid (And.intro b9 (And.intro a9 hA))
      clear hown hgrow b9 a9 hA
      go_wp2_with fail
      go_loopw [21] (fun v21 wr => ∃ k : Nat, k ≤ n ∧ v21 = .int .i64 k ∧ Below w8.heap.size w8 wr ∧ Cells wr A 47 n (fun i => if i < k then .int .u8 (if (lb i).isSome then kd' i else 0) else .int .u8 0)) (fun v21 _ => n - (intOf v21).toNat)
      case atStart => exact ⟨0, Nat.zero_le _, rfl, H9.out.1, H9.out.2.1.congr fun i _ => by simp⟩
      case round =>
        obtain ⟨k, hk, rfl, hb, ha⟩ := hrel
        have HB := Lib.hid hb
        have HA := Lib.hid ha
        have zr := hb.size
        clear hb ha
        by_cases hlt : k < n
        · have hSr := HS8.out.moved (K39.of_below HB.out)
          have e0 := hSr.loc.cell hlt
          have lL := hSr.loc.lt
          have a0' := HA.out.cell hlt
          have fa := HA.out.frozen k
          have lA := HA.out.lt
          simp only [Nat.lt_irrefl, if_false] at a0'
          cases hl : lb k with
          | none =>
            rw [hl] at e0
            unfold locV at e0
            simp only [] at e0
            have HLk := Lib.hid hl
            clear hl hSr
            go_wp2_with fail
            go_roundw
            case rel =>
              refine ⟨k + 1, by omega, by go_num, HB.out, HA.out.congr fun i hi => ?_⟩
              by_cases e : i = k
              · subst e; simp [HLk.out]
              · by_cases e2 : i < k
                · have e3 : i < k + 1 := by omega
                  simp only [e2, e3, if_true]
                · have e3 : ¬ i < k + 1 := by omega
                  simp only [e2, e3, if_false]
            case measure => simp [intOf]; omega
          | some b =>
            rw [hl] at e0
            unfold locV ptr at e0
            simp only [] at e0
            obtain ⟨x, y, g, m, hrow, q0, q4, _⟩ := hSr.row k b hlt hl
            have q3 := HD8.out k b hlt hlt hl
            obtain ⟨kk, hkk⟩ : ∃ kk, kd' k = kk := ⟨_, rfl⟩
            rw [hkk] at hrow q0 q4 q3
            have c1 := hrow.cellv (j := 1) (v := .int .u8 kk) rfl
            have lb1 := hrow.lt
            have hkk3 : kk = 0 ∨ kk = 1 ∨ kk = 2 := by omega
            have HLk := Lib.hid (And.intro hl (And.intro hkk hkk3))
            clear hl hSr hrow hkk hkk3
            go_wp2_with fail
            refine (isu11 kk HLk.out.2.2 wr).mono ?_
            rintro e w10 ⟨rfl, rfl⟩
            go_wp2_with fail
            go_roundw
            case rel =>
              refine ⟨k + 1, by omega, by go_num, HB.out.setCell (by rw [H9.out.2.2]; exact Nat.le_refl _) _, (HA.out.set k _).congr fun i hi => ?_⟩
              unfold upd
              by_cases e : i = k
              · subst e; simp [HLk.out.1, HLk.out.2.1]
              · rw [if_neg e]
                by_cases e2 : i < k
                · have e3 : i < k + 1 := by omega
                  simp only [e2, e3, if_true]
                · have e3 : ¬ i < k + 1 := by omega
                  simp only [e2, e3, if_false]
            case measure => simp [intOf]; omega
        · obtain rfl : k = n := by omega
          clear hlt
          have PR := HP8.out.moved (K39.of_below HB.out).k2
          have HPR := Lib.hid PR
          have HSR := Lib.hid (HS8.out.moved (K39.of_below HB.out))
          have HCR := Lib.hid (HC8.out.below HB.out HC8.out.lt)
          have HBR := Lib.hid (HB8.out.trans (HB.out.mono HB8.out.size))
          have HAR := Lib.hid (HA.out.congr (g := fun i => .int .u8 (if (lb i).isSome then kd' i else 0)) fun i hi => by rw [if_pos hi])
          have HIR := Lib.hid (HI.out.below HBR.out)
          clear PR
          go_wp2_with fail
          refine (count12 wc.heap.size p cu f md mi ww 1 wr HPR.out).mono ?_
          rintro e w10 ⟨rfl, rfl⟩
          go_wp2_with fail
          refine (ctx9 wc.heap.size p cu f md mi ww 1 wc.heap.size wr HPR.out HIR.out (by omega) (by omega) (Nat.le_refl _) H4.out.2.2.2.1).mono ?_
          rintro e w11 ⟨rfl, hP11, k11, b11⟩
          have HSx := Lib.hid (HSR.out.kp k11)
          have HPx := Lib.hid hP11
          have HCx := Lib.hid (k11 _ _ _ HCR.out (by decide) (by decide))
          have lwc : w.heap.size ≤ wc.heap.size := (HK.out.1.trans (HL.out.1.mono HK.out.1.size)).trans (HC.out.mono (HK.out.1.trans (HL.out.1.mono HK.out.1.size)).size) |>.size
          have HBx := Lib.hid (HBR.out.trans (b11.mono lwc))
          obtain ⟨ac, ar, as1, as2⟩ := HAR.out
          have HAx := Lib.hid (Cells.of_row (k11 _ _ _ ar (by decide) (by decide)) as1 as2)
          have lx := b11.size
          clear hP11 k11 b11 ar as1 as2
          go_wp2_with fail
          have b12 : Below w11.heap.size w11 (w11.alloc (.cells #[.int .i32 0, .int .u32 0, .int .u32 1, .bool false] 39)) := (Below.refl _ _).alloc (Nat.le_refl _) _
          have r12 := RowAt.new w11 #[.int .i32 0, .int .u32 0, .int .u32 1, .bool false] 39
          obtain ⟨c2, hc2⟩ : ∃ c2, c2 = w11.heap.size := ⟨_, rfl⟩
          have lc2 : wc.heap.size ≤ c2 := by omega
          rw [← hc2] at r12 ⊢
          generalize w11.alloc (.cells #[.int .i32 0, .int .u32 0, .int .u32 1, .bool false] 39) = w12 at b12 r12 ⊢
          have l12 := b12.size
          have lw12 : w.heap.size ≤ w11.heap.size := HBx.out.size
          have H12 := Lib.hid (And.intro b12 (And.intro r12 lc2))
          clear hc2 lc2 b12 r12
          refine (scan10 c2 p k G w12 _ (scan20 wc.heap.size p cu c2 k G Lr f md mi ww 2 lb eb (fun i => z1.getD i 0) kd' 0 false wc.heap.size o es w12 (HSx.out.moved (K39.of_below H12.out.1)) (HPx.out.moved (K39.of_below H12.out.1).k2) (HCx.out.below H12.out.1 HCx.out.lt) H4.out.2.2.1 ⟨_, _, H12.out.2.1⟩ (by omega) H12.out.2.2 HS5.out.2.1 (by omega))).mono ?_
          rintro e w13 ⟨rfl, _, _, _, _, _, _, _, _, _, b13⟩
          have b13' := b13 HD8.out
          clear b13
          have HSy := Lib.hid ((HSx.out.moved (K39.of_below H12.out.1)).moved (K39.of_below b13'))
          have HPy := Lib.hid ((HPx.out.moved (K39.of_below H12.out.1).k2).moved (K39.of_below b13').k2)
          have HAy := Lib.hid ((HAx.out.below H12.out.1 HAx.out.lt).below b13' (Nat.lt_of_lt_of_le HAx.out.lt l12))
          have HRy := Lib.hid (H12.out.2.1.below b13' H12.out.2.1.lt)
          have HBy := Lib.hid ((HBx.out.trans (H12.out.1.mono lw12)).trans (b13'.mono (Nat.le_trans lw12 l12)))
          have ly := b13'.size
          clear b13'
          go_wp2_with fail
          go_loopw [24] (fun v24 wr => ∃ j : Nat, j ≤ k ∧ v24 = .int .i64 j ∧ Below w13.heap.size w13 wr) (fun v24 _ => k - (intOf v24).toNat)
          case atStart => exact ⟨0, Nat.zero_le _, rfl, Below.refl _ _⟩
          case round =>
            obtain ⟨j, hj, rfl, hb⟩ := hrel
            have HBj := Lib.hid hb
            have zj := hb.size
            clear hb
            by_cases hlt : j < k
            · have e0 := (HSy.out.moved (K39.of_below HBj.out)).loc.cell hlt
              have lL := (HSy.out.moved (K39.of_below HBj.out)).loc.lt
              have a0' := (HAy.out.below HBj.out HAy.out.lt).cell hlt
              have lA := (HAy.out.below HBj.out HAy.out.lt).lt
              cases hl : lb j with
              | none =>
                rw [hl] at e0 a0'
                unfold locV at e0
                simp only [] at e0
                clear hl
                go_wp2_with fail
                go_quiet (fail)
                go_wp2_with fail
                go_roundw
                case rel => exact ⟨j + 1, by omega, by go_num, below_drewN HBj.out _⟩
                case measure => simp [intOf]; omega
              | some b =>
                rw [hl] at e0 a0'
                unfold locV ptr at e0
                simp only [Option.isSome_some, if_true] at e0 a0'
                obtain ⟨x, y, g, m, hrow, q0, q4, _⟩ := (HSy.out.moved (K39.of_below HBj.out)).row j b hlt hl
                obtain ⟨kk, hkk⟩ : ∃ kk, kd' j = kk := ⟨_, rfl⟩
                rw [hkk] at hrow q0 q4 a0'
                have c1 := hrow.cellv (j := 1) (v := .int .u8 kk) rfl
                have lb1 := hrow.lt
                clear hl hrow hkk
                go_wp2_with fail
                go_quiet (fail)
                go_wp2_with fail
                go_roundw
                case rel => exact ⟨j + 1, by omega, by go_num, below_drewN HBj.out _⟩
                case measure => simp [intOf]; omega
            · obtain rfl : j = k := by omega
              clear hlt
              have HPz := Lib.hid (HPy.out.moved (K39.of_below HBj.out).k2)
              have RZ := HRy.out.below HBj.out HRy.out.lt
              have x0 := RZ.cellv (j := 0) (v := .int .i32 0) rfl
              have x3 := RZ.cellv (j := 3) (v := .bool false) rfl
              have HX := Lib.hid (And.intro x0 x3)
              clear RZ x0 x3
              have h13 := first13 c2 0 wr HX.out.1
              have h14 := await14 c2 false wr HX.out.2
              have h12 := count12 wc.heap.size p cu f md mi ww 2 wr HPz.out
              have HF := Lib.hid (And.intro h13 (And.intro h14 h12))
              unfold ptr at HF
              clear h13 h14 h12
              go_wp2_with fail
              refine HF.out.1.mono ?_
              rintro e w14 ⟨rfl, rfl⟩
              go_wp2_with fail
              refine HF.out.2.1.mono ?_
              rintro e w14 ⟨rfl, rfl⟩
              go_wp2_with fail
              refine HF.out.2.2.mono ?_
              rintro e w14 ⟨rfl, rfl⟩
              go_wp2_with fail
              go_ret
              exact ⟨by simp, HBy.out.trans (HBj.out.mono HBy.out.size)⟩

end Go.Proofs.YtkncfhhiookgdaaDoor
