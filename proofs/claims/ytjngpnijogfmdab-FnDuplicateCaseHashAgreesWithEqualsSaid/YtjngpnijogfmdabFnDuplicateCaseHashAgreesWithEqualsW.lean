import Derived.Test.YtjngpnijogfmdabKit
import Derived.Test.YtjngpnijogfmdabDhE
import Derived.Laws.Cover2
namespace Go.Proofs.Ytjngpnijogfmdab.fnDuplicateCaseHashAgreesWithEquals
open Go.ChangeShapes Go.WideShapes Go.ChangeAt Go.RowKit
set_option linter.unusedVariables false
set_option maxRecDepth 100000
set_option maxHeartbeats 2000000

theorem zz4 (a0 a1 : Int) (f2 f3 : Value) (a4 a5 : Bool) (a : Option Addr) (n c : Nat) (a' : Option Addr) (m c' : Nat) (a8 a9 : Int) (a10 a11 : Bool) (w : World) (h1 : n ≤ 1048576) (h2 : m ≤ 1048576) (h : n + m ≤ 1048576) :
    Calls Try.prog 4 #[.int .u8 a0, .int .u8 a1, f2, f3, .bool a4, .bool a5, .slice a n c, .slice a' m c', .int .u32 a8, .int .u32 a9, .bool a10, .bool a11] w fun e w' => e = .returned (.bool true) ∧ w = w' := by
  go_enter Try.func4, Try.ntmps4
  go_wp2
  go_ret
  exact ⟨rfl, rfl⟩
theorem zz4no (a0 a1 : Int) (f2 f3 : Value) (a4 a5 : Bool) (a : Option Addr) (n c : Nat) (a' : Option Addr) (m c' : Nat) (a8 a9 : Int) (a10 a11 : Bool) (w : World) (m1 : n ≤ 9223372036854775807) (m2 : m ≤ 9223372036854775807) (h : ¬ (n ≤ 1048576 ∧ m ≤ 1048576 ∧ n + m ≤ 1048576)) :
    Calls Try.prog 4 #[.int .u8 a0, .int .u8 a1, f2, f3, .bool a4, .bool a5, .slice a n c, .slice a' m c', .int .u32 a8, .int .u32 a9, .bool a10, .bool a11] w fun e w' => e = .returned (.bool false) ∧ w = w' := by
  by_cases h1 : 1048576 < n
  · clear h
    go_enter Try.func4, Try.ntmps4
    go_wp2
    go_ret
    exact ⟨rfl, rfl⟩
  by_cases h2 : 1048576 < m
  · clear h
    go_enter Try.func4, Try.ntmps4
    go_wp2
    go_ret
    exact ⟨rfl, rfl⟩
  have h3 : 1048576 < n + m := by omega
  clear h
  go_enter Try.func4, Try.ntmps4
  go_wp2
  go_ret
  exact ⟨rfl, rfl⟩

section
variable {H : Type} {enc : TypeId × Value → H} {P : Program} {w : World} {base : Nat} {spare : Nat → Bool} {held : Bool}
theorem float_open {r : Reach} {b0 : Nat} {t : TypeId} {v : Value} {d : DataW H} {ps : List MemPlace} (ht : P.underlying t = some (.float .f64)) (hval : Value.okWide P w r b0 t v) (hd : DataW.Trod enc P w base spare held t v d ps) :
    ∃ b, v = .float .f64 b ∧ (Lit.float .f64 b).wf = true := by
  obtain ⟨b, rfl⟩ := okWide_float ht hval
  obtain ⟨fuel, hf⟩ := hd
  refine ⟨b, rfl, ?_⟩
  cases fuel with
  | zero => simp [DataW.trod] at hf
  | succ n =>
    unfold DataW.trod at hf
    rw [ht] at hf
    simp [Value.cells] at hf
    exact hf.1
end

theorem main3 (ka kb : Int) (na nb : Nat) (ba bb : Bool) (a : Option Addr) (n c : Nat) (zs : List Int) (a' : Option Addr) (m c' : Nat) (ys : List Int) (ra rb : Int) (wa wb : Bool) (w : World) (hx : na < 18446744073709551616) (hy : nb < 18446744073709551616) (ka0 : 0 ≤ ka) (ka1 : ka ≤ 255) (kb0 : 0 ≤ kb) (kb1 : kb ≤ 255)
    (ra0 : 0 ≤ ra) (ra1 : ra ≤ 4294967295) (rb0 : 0 ≤ rb) (rb1 : rb ≤ 4294967295) (hn : n ≤ 524288) (hm : m ≤ 524288) (hs : 2 * n + 2 * m ≤ 1048576) (w6 : IsRow .u16 w a n c zs) (w7 : IsRow .u16 w a' m c' ys) :
    Calls Try.prog 3 #[.int .u8 ka, .int .u8 kb, .float .f64 na, .float .f64 nb, .bool ba, .bool bb, .slice a n c, .slice a' m c', .int .u32 ra, .int .u32 rb, .bool wa, .bool wb] w fun e w' => e = .returned (.bool true) ∧ Below w.heap.size w w' := by
  have H6 := Lib.hid w6
  have H7 := Lib.hid (show ∀ w1, Below w.heap.size w w1 → IsRow .u16 w1 a' m c' ys from fun w1 hb => by
    rcases w7 with h | ⟨x, e, h1, h2, h3, h4, h5⟩
    · exact .inl h
    · exact .inr ⟨x, e, h1, h2, h3, fun i hi => later (h4 i hi) hb, h5⟩)
  clear w6 w7
  go_enter Try.func3, Try.ntmps3
  go_wp2_with fail
  refine (zz4 _ _ _ _ _ _ _ _ _ _ _ _ _ _ _ _ _ (by omega) (by omega) (by omega)).mono ?_
  rintro e w0 ⟨rfl, rfl⟩
  go_wp2_with fail
  refine (cl5 a n c zs _ H6.out (by omega)).mono ?_
  rintro e w1 ⟨b, rfl, hu, b1⟩
  have U1 := Lib.hid hu
  have B1 := Lib.hid b1
  clear hu b1
  go_wp2_with fail
  refine (cl5 a' m c' ys _ (H7.out _ B1.out) (by omega)).mono ?_
  rintro e w2 ⟨b', rfl, hu, b2⟩
  have U2 := Lib.hid (U1.out.below b2)
  have V2 := Lib.hid hu
  have B2 := Lib.hid (B1.out.trans (b2.mono B1.out.size))
  clear hu b2 U1 B1 H6 H7
  obtain ⟨z, hz⟩ : ∃ z, (fun i => zs.getD i 0) = z := ⟨_, rfl⟩
  obtain ⟨y, hyy⟩ : ∃ y, (fun i => ys.getD i 0) = y := ⟨_, rfl⟩
  rw [hz] at U2
  rw [hyy] at V2
  clear hz hyy
  go_wp2_with fail
  refine (leafAll ka na ba b n z ra _ hx (by omega) U2.out ra0 ra1 ka0 ka1).mono ?_
  rintro e w3 ⟨UA, va, rfl, va1, ha, b3⟩
  obtain ⟨hA, hhA⟩ : ∃ h, hk (ka % 7) na ba z n ra = h := ⟨_, rfl⟩
  rw [hhA] at ha
  have HHA := Lib.hid hhA
  have HA3 := Lib.hid ha
  have U3 := Lib.hid (U2.out.below b3)
  have V3 := Lib.hid (V2.out.below b3)
  have B3 := Lib.hid (B2.out.trans (b3.mono B2.out.size))
  have hst := fun (A : Addr) (W : World) (M : Mode) => run_store Try.prog W A (.iface UA va) M rfl
  clear ha b3 U2 V2 B2 hhA
  go_wp2_with fail
  refine (leafAll kb nb bb b' m y rb _ hy (by omega) (V3.out.below (by go_grown)) rb0 rb1 kb0 kb1).mono ?_
  rintro e w4 ⟨UB, vb, rfl, vb1, hb, b4⟩
  obtain ⟨hB, hhB⟩ : ∃ h, hk (kb % 7) nb bb y m rb = h := ⟨_, rfl⟩
  rw [hhB] at hb
  have HHB := Lib.hid hhB
  have HB4 := Lib.hid hb
  have b34 : Below w3.heap.size w3 w4 := Below.trans (by go_grown) (b4.mono (by go_size))
  have HA4 := Lib.hid (HA3.out.below b34)
  have U4 := Lib.hid (U3.out.below b34)
  have V4 := Lib.hid (V3.out.below b34)
  have B4 := Lib.hid (B3.out.trans (b34.mono B3.out.size))
  have ea : RowAt w4 w3.heap.size #[.iface UA va, .int .i32 0] 32 := (RowAt.new w3 _ _).below b4 (by simp)
  have hst2 := fun (A : Addr) (W : World) (M : Mode) => run_store Try.prog W A (.iface UB vb) M rfl
  have ea0 := ea.cellv (j := 0) (v := .iface UA va) rfl
  have ea1 := ea.cellv (j := 1) (v := .int .i32 0) rfl
  have la := ea.lt
  have EA := Lib.hid ea
  clear hb b4 b34 U3 V3 B3 HA3 hhB ea
  go_wp2_with fail
  refine (hash7 UA va _ _ _ va1 (HA4.out.below (by go_grown))).mono ?_
  rintro e w5 ⟨rfl, b5⟩
  have b45 : Below w4.heap.size w4 w5 := Below.trans (by go_grown) (b5.mono (by go_size))
  have HA5 := Lib.hid (HA4.out.below b45)
  have HB5 := Lib.hid (HB4.out.below b45)
  have U5 := Lib.hid (U4.out.below b45)
  have V5 := Lib.hid (V4.out.below b45)
  have B5 := Lib.hid (B4.out.trans (b45.mono B4.out.size))
  have ea := EA.out.below b45 la
  have eb : RowAt w5 w4.heap.size #[.iface UB vb, .int .i32 0] 32 := (RowAt.new w4 _ _).below b5 (by simp)
  clear ea0 ea1 la EA HA4 HB4 U4 V4 B4 b5 b45
  have ea0 := ea.cellv (j := 0) (v := .iface UA va) rfl
  have ea1 := ea.cellv (j := 1) (v := .int .i32 0) rfl
  have la := ea.lt
  have eb0 := eb.cellv (j := 0) (v := .iface UB vb) rfl
  have eb1 := eb.cellv (j := 1) (v := .int .i32 0) rfl
  have lb := eb.lt
  have EA := Lib.hid ea
  have EB := Lib.hid eb
  clear ea eb
  go_wp2_with fail
  refine (hash7 UB vb _ _ _ vb1 HB5.out).mono ?_
  rintro e w6 ⟨rfl, b6⟩
  have HA6 := Lib.hid (HA5.out.below b6)
  have HB6 := Lib.hid (HB5.out.below b6)
  have U6 := Lib.hid (U5.out.below b6)
  have V6 := Lib.hid (V5.out.below b6)
  have B6 := Lib.hid (B5.out.trans (b6.mono B5.out.size))
  have ea := EA.out.below b6 la
  have eb := EB.out.below b6 lb
  clear ea0 ea1 la EA eb0 eb1 lb EB HA5 HB5 U5 V5 B5 b6
  have ea0 := ea.cellv (j := 0) (v := .iface UA va) rfl
  have ea1 := ea.cellv (j := 1) (v := .int .i32 0) rfl
  have la := ea.lt
  have EB := Lib.hid eb
  have lb := eb.lt
  clear ea eb
  go_wp2_with fail
  refine (wrap8 UA va _ _ wa _ va1 HA6.out).mono ?_
  rintro e w7 ⟨UC, vc, rfl, vc1, hc, b7⟩
  have HC7 := Lib.hid hc
  have HB7 := Lib.hid (HB6.out.below b7)
  have U7 := Lib.hid (U6.out.below b7)
  have V7 := Lib.hid (V6.out.below b7)
  have B7 := Lib.hid (B6.out.trans (b7.mono B6.out.size))
  have EB7 := Lib.hid (EB.out.below b7 lb)
  clear hc b7 ea0 ea1 la EB lb HA6 HB6 U6 V6 B6
  go_wp2_with fail
  refine (hash7 UC vc _ _ _ vc1 HC7.out).mono ?_
  rintro e w8 ⟨rfl, b8⟩
  have HB8 := Lib.hid (HB7.out.below b8)
  have U8 := Lib.hid (U7.out.below b8)
  have V8 := Lib.hid (V7.out.below b8)
  have B8 := Lib.hid (B7.out.trans (b8.mono B7.out.size))
  have eb := EB7.out.below b8 EB7.out.lt
  have eb0 := eb.cellv (j := 0) (v := .iface UB vb) rfl
  have eb1 := eb.cellv (j := 1) (v := .int .i32 0) rfl
  have lb := eb.lt
  clear b8 EB7 HB7 U7 V7 B7 HC7 eb
  go_wp2_with fail
  refine (wrap8 UB vb _ _ wb _ vb1 HB8.out).mono ?_
  rintro e w9 ⟨UD, vd, rfl, vd1, hd, b9⟩
  have HD9 := Lib.hid hd
  have U9 := Lib.hid (U8.out.below b9)
  have V9 := Lib.hid (V8.out.below b9)
  have B9 := Lib.hid (B8.out.trans (b9.mono B8.out.size))
  clear hd b9 eb0 eb1 lb HB8 U8 V8 B8
  go_wp2_with fail
  refine (hash7 UD vd _ _ _ vd1 HD9.out).mono ?_
  rintro e w10 ⟨rfl, b10⟩
  have U10 := Lib.hid (U9.out.below b10)
  have V10 := Lib.hid (V9.out.below b10)
  have B10 := Lib.hid (B9.out.trans (b10.mono B9.out.size))
  clear b10 HD9 U9 V9 B9
  by_cases hz : ka % 7 = 3 ∧ kb % 7 = 3 ∧ Ieee.double.order na 0 = some .eq ∧ Ieee.double.order nb 0 = some .eq
  · obtain ⟨h1, h2, h3, h4⟩ := hz
    have g3 : (FloatKind.f64.format.order na 0 == some .eq) = true := beq_iff_eq.2 h3
    have g4 : (FloatKind.f64.format.order nb 0 == some .eq) = true := beq_iff_eq.2 h4
    clear h3 h4
    go_wp2_with fail
    go_ret
    exact ⟨rfl, B10.out⟩
  · have HZ := Lib.hid hz
    clear hz
    by_cases h1 : ka % 7 = 3
    · by_cases h2 : kb % 7 = 3
      · cases g3 : (FloatKind.f64.format.order na 0 == some .eq)
        · as_aux_lemma =>
          go_wp2_with fail
          refine (leafEq ka kb na nb ba bb b b' n m z y ra rb _ (by omega) (by omega) U10.out V10.out ka0 ka1 kb0 kb1).mono ?_
          rintro e w11 ⟨q, rfl, hq, b11⟩
          have B11 := Lib.hid (B10.out.trans (b11.mono B10.out.size))
          clear b11 U10 V10 B10
          cases q
          · clear hq
            go_wp2_with fail
            go_ret
            exact ⟨rfl, B11.out⟩
          · have E := hq rfl
            have heq : hA = hB := by
              rw [← HHA.out, ← HHB.out]
              exact hk_eq E hx hy (fun ⟨h1, h3, h4⟩ => HZ.out ⟨h1, E.kind ▸ h1, h3, h4⟩)
            clear hq E HHA HHB HZ
            subst heq
            go_wp2_with fail
            go_ret
            exact ⟨rfl, B11.out⟩
        · have g4 : (FloatKind.f64.format.order nb 0 == some .eq) = false := by
            cases h : (FloatKind.f64.format.order nb 0 == some .eq)
            · rfl
            · exact (HZ.out ⟨h1, h2, beq_iff_eq.1 g3, beq_iff_eq.1 h⟩).elim
          go_wp2_with fail
          refine (leafEq ka kb na nb ba bb b b' n m z y ra rb _ (by omega) (by omega) U10.out V10.out ka0 ka1 kb0 kb1).mono ?_
          rintro e w11 ⟨q, rfl, hq, b11⟩
          have B11 := Lib.hid (B10.out.trans (b11.mono B10.out.size))
          clear b11 U10 V10 B10
          cases q
          · clear hq
            go_wp2_with fail
            go_ret
            exact ⟨rfl, B11.out⟩
          · have E := hq rfl
            have heq : hA = hB := by
              rw [← HHA.out, ← HHB.out]
              exact hk_eq E hx hy (fun ⟨h1, h3, h4⟩ => HZ.out ⟨h1, E.kind ▸ h1, h3, h4⟩)
            clear hq E HHA HHB HZ
            subst heq
            go_wp2_with fail
            go_ret
            exact ⟨rfl, B11.out⟩
      · as_aux_lemma =>
        go_wp2_with fail
        refine (leafEq ka kb na nb ba bb b b' n m z y ra rb _ (by omega) (by omega) U10.out V10.out ka0 ka1 kb0 kb1).mono ?_
        rintro e w11 ⟨q, rfl, hq, b11⟩
        have B11 := Lib.hid (B10.out.trans (b11.mono B10.out.size))
        clear b11 U10 V10 B10
        cases q
        · clear hq
          go_wp2_with fail
          go_ret
          exact ⟨rfl, B11.out⟩
        · have E := hq rfl
          have heq : hA = hB := by
            rw [← HHA.out, ← HHB.out]
            exact hk_eq E hx hy (fun ⟨h1, h3, h4⟩ => HZ.out ⟨h1, E.kind ▸ h1, h3, h4⟩)
          clear hq E HHA HHB HZ
          subst heq
          go_wp2_with fail
          go_ret
          exact ⟨rfl, B11.out⟩
    · as_aux_lemma =>
      go_wp2_with fail
      refine (leafEq ka kb na nb ba bb b b' n m z y ra rb _ (by omega) (by omega) U10.out V10.out ka0 ka1 kb0 kb1).mono ?_
      rintro e w11 ⟨q, rfl, hq, b11⟩
      have B11 := Lib.hid (B10.out.trans (b11.mono B10.out.size))
      clear b11 U10 V10 B10
      cases q
      · clear hq
        go_wp2_with fail
        go_ret
        exact ⟨rfl, B11.out⟩
      · have E := hq rfl
        have heq : hA = hB := by
          rw [← HHA.out, ← HHB.out]
          exact hk_eq E hx hy (fun ⟨h1, h3, h4⟩ => HZ.out ⟨h1, E.kind ▸ h1, h3, h4⟩)
        clear hq E HHA HHB HZ
        subst heq
        go_wp2_with fail
        go_ret
        exact ⟨rfl, B11.out⟩

theorem walk (a0 : Int) (a1 : Int) (f2 : Nat) (f3 : Nat) (a4 : Bool) (a5 : Bool) (a6 : Option Addr) (len6 cap6 : Nat) (z6 : List Int) (a7 : Option Addr) (len7 cap7 : Nat) (z7 : List Int) (a8 : Int) (a9 : Int) (a10 : Bool) (a11 : Bool) (w : World) (w0 : (Lit.int .u8 a0).wf = true) (w1 : (Lit.int .u8 a1).wf = true) (w2 : (Lit.float .f64 f2).wf = true) (w3 : (Lit.float .f64 f3).wf = true) (w6 : IsRow .u16 w a6 len6 cap6 z6) (w7 : IsRow .u16 w a7 len7 cap7 z7) (w8 : (Lit.int .u32 a8).wf = true) (w9 : (Lit.int .u32 a9).wf = true) :
    Calls Try.prog 3 #[.int .u8 a0, .int .u8 a1, .float .f64 f2, .float .f64 f3, .bool a4, .bool a5, .slice a6 len6 cap6, .slice a7 len7 cap7, .int .u32 a8, .int .u32 a9, .bool a10, .bool a11] w fun e w' => e = .returned (.bool true) ∧ Below w.heap.size w w' := by
  obtain ⟨k0, k1⟩ := bounds_u8 w0
  obtain ⟨l0, l1⟩ := bounds_u8 w1
  obtain ⟨r0, r1⟩ := bounds_u32 w8
  obtain ⟨s0, s1⟩ := bounds_u32 w9
  have x2 : f2 < 18446744073709551616 := of_decide_eq_true w2
  have x3 : f3 < 18446744073709551616 := of_decide_eq_true w3
  have m6 : len6 ≤ 9223372036854775807 := by
    rcases w6 with ⟨_, rfl, _⟩ | ⟨_, _, hl, hm, _⟩
    · omega
    · unfold maxLen at hm; omega
  have m7 : len7 ≤ 9223372036854775807 := by
    rcases w7 with ⟨_, rfl, _⟩ | ⟨_, _, hl, hm, _⟩
    · omega
    · unfold maxLen at hm; omega
  have W6 := Lib.hid w6
  have W7 := Lib.hid w7
  clear w6 w7 w0 w1 w2 w3 w8 w9
  by_cases h : len6 ≤ 1048576 ∧ len7 ≤ 1048576 ∧ len6 + len7 ≤ 1048576
  · obtain ⟨h1, h2, h3⟩ := h
    by_cases h4 : 524288 < len6
    · as_aux_lemma =>
      go_enter Try.func3, Try.ntmps3
      go_wp2_with fail
      refine (zz4 _ _ _ _ _ _ _ _ _ _ _ _ _ _ _ _ _ h1 h2 h3).mono ?_
      rintro e w0 ⟨rfl, rfl⟩
      go_wp2_with fail
      go_ret
      exact ⟨rfl, Below.refl _ _⟩
    by_cases h5 : 524288 < len7
    · as_aux_lemma =>
      go_enter Try.func3, Try.ntmps3
      go_wp2_with fail
      refine (zz4 _ _ _ _ _ _ _ _ _ _ _ _ _ _ _ _ _ h1 h2 h3).mono ?_
      rintro e w0 ⟨rfl, rfl⟩
      go_wp2_with fail
      go_ret
      exact ⟨rfl, Below.refl _ _⟩
    by_cases h6 : 1048576 < 2 * len6 + 2 * len7
    · as_aux_lemma =>
      go_enter Try.func3, Try.ntmps3
      go_wp2_with fail
      refine (zz4 _ _ _ _ _ _ _ _ _ _ _ _ _ _ _ _ _ h1 h2 h3).mono ?_
      rintro e w0 ⟨rfl, rfl⟩
      go_wp2_with fail
      go_ret
      exact ⟨rfl, Below.refl _ _⟩
    exact main3 a0 a1 f2 f3 a4 a5 a6 len6 cap6 z6 a7 len7 cap7 z7 a8 a9 a10 a11 w x2 x3 k0 k1 l0 l1 r0 r1 s0 s1 (by omega) (by omega) (by omega) W6.out W7.out
  · as_aux_lemma =>
    go_enter Try.func3, Try.ntmps3
    go_wp2_with fail
    refine (zz4no _ _ _ _ _ _ _ _ _ _ _ _ _ _ _ _ _ m6 m7 h).mono ?_
    rintro e w0 ⟨rfl, rfl⟩
    go_wp2_with fail
    go_ret
    exact ⟨rfl, Below.refl _ _⟩

end Go.Proofs.Ytjngpnijogfmdab.fnDuplicateCaseHashAgreesWithEquals
