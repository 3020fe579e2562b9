import Derived.Test.YtailfkedgdlldabKit
import Derived.Test.YtailfkedgdlldabCaseD
namespace Go.Proofs.Ytailfkedgdlldab.fnCaseBodyFallThroughTable
open Go.ChangeShapes Go.WideShapes Go.ChangeAt Go.RowKit
set_option linter.unusedVariables false
set_option maxRecDepth 100000
set_option maxHeartbeats 2000000

theorem zzb_nil (w : World) : Calls Try.prog 28 #[.slice none 0 0] w fun e w' => e = .returned (.bool true) ∧ w = w' := by
  go_enter Try.func28, Try.ntmps28
  go_wp2
  go_rounds 1
  go_ret
  exact ⟨rfl, rfl⟩
theorem lf_nil (w : World) : Calls Try.prog 29 #[.slice none 0 0] w fun e w' => e = .returned (.bool false) ∧ w = w' := by
  go_enter Try.func29, Try.ntmps29
  go_wp2
  go_rounds 1
  go_ret
  exact ⟨rfl, rfl⟩
theorem falls_nil (w : World) : Calls Try.prog 60 #[.slice none 0 0] w fun e w' => e = .returned (.bool true) ∧ w = w' := falls (fun _ => False) 0 _ true w (.inl ⟨_, _, rfl, rfl⟩)

theorem falls33 (X : Nat → Prop) (k0 : Nat) (a : Option Addr) (n c : Nat) (t : Bool) (w : World) (h : FT X k0 w (.slice a n c) t) :
    Calls Try.prog 33 #[.slice a n c] w fun e w' => e = .returned (.bool t) ∧ w = w' := by
  have H := Lib.hid h
  clear h
  go_enter Try.func33, Try.ntmps33
  go_wp2_with fail
  refine (falls X k0 _ t _ H.out).mono ?_
  rintro e w1 ⟨rfl, rfl⟩
  go_wp2
  go_ret
  exact ⟨rfl, rfl⟩

theorem walk_nil (w : World) : Calls Try.prog 7 #[.slice none 0 0] w fun e w' => e = .returned (.bool true) ∧ Below w.heap.size w w' := by
  have hne := fun W => run_neq_slice_nil_any (P := Try.prog) W 66 68 none 0 0 0 0 Try.underlying66
  go_enter Try.func7, Try.ntmps7
  go_wp2_with fail
  refine (zzb_nil _).mono ?_
  rintro e w1 ⟨rfl, rfl⟩
  go_wp2_with fail
  refine (lf_nil _).mono ?_
  rintro e w1 ⟨rfl, rfl⟩
  go_wp2_with fail
  go_rounds 1
  go_rounds 1
  go_ret
  exact ⟨rfl, Below.refl _ _⟩

theorem copy_any (a : Option Addr) (n c : Nat) (z : List Int) (w : World) (R : Nat) (hR : R < w.heap.size) (hn : n ≤ 1048576) (h0 : a = none → n = 0 ∧ c = 0) (hcell : ∀ x, a = some x → ∀ i, i < n → w.cell? (x.add i) = some (.int .u8 (z.getD i 0))) :
    Calls Try.prog 30 #[.slice a n c] w fun e w' => ∃ a' c', e = .returned (.slice a' n c') ∧ CodesN R w' (.slice a' n c') n z ∧ Below w.heap.size w w' := by
  cases a with
  | none =>
    obtain ⟨rfl, rfl⟩ := h0 rfl
    refine (copy_nil w).mono ?_
    rintro e w1 ⟨rfl, rfl⟩
    exact ⟨_, _, rfl, .inl ⟨rfl, rfl⟩, Below.refl _ _⟩
  | some x =>
    refine (copy x n c z w hn (hcell x rfl)).mono ?_
    rintro e w1 ⟨rfl, h1, h2⟩
    exact ⟨_, _, rfl, .inr ⟨_, by omega, rfl, fun i hi => h1.cell hi⟩, h2⟩

/-- What the statements gathered so far say. -/
def Inner (w : World) (len : Nat) (q : Int) (v : Value) (T : Bool) : Prop :=
  ∃ a n c, v = .slice a n c ∧ (q = len - 1 → v = .slice none 0 0) ∧ (q < len - 1 → ∃ k, FT (fun _ => False) k w v T)

theorem walk_some (x : Addr) (len cap : Nat) (A : Nat → Option Addr) (L C : Nat → Nat) (Z : Nat → List Int) (w : World) (hlc : len ≤ cap) (hm : cap ≤ maxLen)
    (hrow : ∀ r, r < len → w.cell? (x.add r) = some (.slice (A r) (L r) (C r)) ∧ L r ≤ C r ∧ C r ≤ maxLen ∧ (A r = none → C r = 0) ∧ (∀ x', A r = some x' → ∀ i, i < L r → w.cell? (x'.add i) = some (.int .u8 ((Z r).getD i 0))) ∧ ∀ i, i < L r → 0 ≤ (Z r).getD i 0 ∧ (Z r).getD i 0 ≤ 255) :
    Calls Try.prog 7 #[.slice (some x) len cap] w fun e w' => e = .returned (.bool true) ∧ Below w.heap.size w w' := by
  have hne := fun W => run_neq_slice_nil_any (P := Try.prog) W 66 68 (some x) len cap 0 0 Try.underlying66
  obtain ⟨i0, hi, hz0, hz1, hz2⟩ := info_parts info68
  unfold maxLen at hm
  have HLens : Hid (Lens w x len L) := fun r hr => ⟨by have := hrow r hr; unfold maxLen at this; omega, _, _, (hrow r hr).1⟩
  have HROW := Lib.hid hrow
  clear hrow
  go_enter Try.func7, Try.ntmps7
  go_wp2_with fail
  refine (zzbytes x len cap L _ (by omega) HLens.out).mono ?_
  rintro e w1 ⟨b, _, rfl, rfl⟩
  cases b
  · go_wp2_with fail
    go_ret
    exact ⟨rfl, Below.refl _ _⟩
  go_wp2_with fail
  refine (levelsFail x len cap L _ (by omega) HLens.out).mono ?_
  rintro e w1 ⟨b, hfit, rfl, rfl⟩
  cases b
  case true =>
    go_wp2_with fail
    go_ret
    exact ⟨rfl, Below.refl _ _⟩
  obtain ⟨hlen, hshort⟩ := hfit rfl
  have HSh := Lib.hid hshort
  clear hfit hshort HLens
  go_wp2_with (at_make; refine wpList_make_full _ rfl _ _ 66 rfl w.heap.size 68 i0 _ 1 Try.underlying66 hi hz0 hz1 .i64 .i64 _ _ len rfl rfl rfl rfl (by rw [hz2]; omega) (by unfold maxLen; omega) (Nat.le_refl _) ?_; intro w1 hown hgrow)
  clear hi hz0 hz1 hz2 i0 hne
  obtain ⟨cs0, hr0, hs0, _⟩ := RowAt.of_owns hown
  have hb1 : Below w.heap.size w w1 := (Below.refl _ _).grown hgrow (Nat.le_refl _) (fun k hk => by cases hk)
  have hB1 : Copied w1 w.heap.size len 0 L Z := ⟨cs0, hr0, by omega, fun r hr => by omega⟩
  clear hown hgrow hr0 hs0
  go_loopw [4] (fun v4 wr => ∃ k : Nat, k ≤ len ∧ v4 = .int .i64 k ∧ Copied wr w.heap.size len k L Z ∧ Below w.heap.size w wr) (fun v4 _ => len - (intOf v4).toNat)
  case atStart => exact ⟨0, Nat.zero_le _, rfl, hB1, hb1⟩
  case round =>
    obtain ⟨k, hk, rfl, hB, hb⟩ := hrel
    have HB := Lib.hid hB
    clear hB hB1 hb1
    by_cases hlt : k < len
    · obtain ⟨hcx, hLC, hC, hA, hcz, hwz⟩ := HROW.out k hlt
      have hs := HSh.out k hlt
      have hc := later hcx hb
      obtain ⟨l, hl⟩ : ∃ l, L k = l := ⟨_, rfl⟩
      obtain ⟨cc, hcc⟩ : ∃ cc, C k = cc := ⟨_, rfl⟩
      obtain ⟨aa, haa⟩ : ∃ aa, A k = aa := ⟨_, rfl⟩
      rw [hl, hcc, haa] at hc
      rw [hl] at hs hLC hcz
      rw [hcc] at hLC hA
      rw [haa] at hA hcz
      have HL := Lib.hid hl
      have HA : Hid (aa = none → l = 0 ∧ cc = 0) := fun h => by have := hA h; omega
      have HCZ : Hid (∀ x', aa = some x' → ∀ i, i < l → wr.cell? (x'.add i) = some (.int .u8 ((Z k).getD i 0))) := fun x' hx i hi' => later (hcz x' hx i hi') hb
      obtain ⟨cs, hr, hsz, _⟩ := HB.out
      have hRlt := hr.lt
      clear hl hcc haa hA hcz hwz hcx hC hr
      go_wp2_with fail
      refine (copy_any aa l cc (Z k) _ w.heap.size hRlt hs HA.out HCZ.out).mono ?_
      rintro e w2 ⟨a', c', rfl, hv, h2⟩
      obtain ⟨cs2, hr2, hsz2, _⟩ : Copied w2 w.heap.size len k L Z := HB.out.below (fun b hb' => h2.block b hb')
      obtain ⟨x0, q0⟩ : ∃ x0, w2.cell? ⟨w.heap.size, k, none⟩ = some x0 := ⟨_, hr2.cellv (Array.getElem?_eq_getElem (by omega))⟩
      have q1 := hr2.frozen k
      have HV := Lib.hid hv
      clear hr2 hsz2 hv
      go_wp2
      go_roundw
      case rel =>
        refine ⟨k + 1, by omega, by go_num, HB.out.step hlt h2 (by rw [HL.out]; exact HV.out), ?_⟩
        have h3 := hb.trans (h2.mono hb.size)
        have h4 := hb.size
        have h5 := h2.size
        go_grown
      case measure => simp [intOf]; omega
    · obtain rfl : k = len := by omega
      have hl0 : -1 ≤ (k : Int) - 1 := by omega
      obtain ⟨T, hT⟩ : ∃ T, (if k = 0 then true else lastT (L (k - 1)) (Z (k - 1))) = T := ⟨_, rfl⟩
      have HT := Lib.hid hT
      clear hT
      go_wp2_with fail
      go_loopw [5, 6, 7] (fun v5 v6 v7 w3 => ∃ q : Int, -1 ≤ q ∧ q < k ∧ v6 = .int .i64 q ∧ Inner w3 k q v5 T ∧ Copied w3 w.heap.size k k L Z ∧ Below w.heap.size w w3) (fun _ v6 _ _ => (intOf v6 + 1).toNat)
      case atStart => exact ⟨(k : Int) - 1, by omega, by omega, rfl, ⟨none, 0, 0, rfl, fun _ => rfl, fun h => by omega⟩, HB.out, hb⟩
      case round =>
        rename_i wr2
        clear hb HB
        obtain ⟨q, hq1, hq2, rfl, hin, hB, hb⟩ := hrel
        have HB := Lib.hid hB
        obtain ⟨av, nv, cv, rfl, hin1, hin2⟩ := hin
        have I1 := Lib.hid hin1
        have I2 := Lib.hid hin2
        obtain ⟨cs, hr, hsz, hx⟩ := HB.out
        have hRlt := hr.lt
        have hRR := hb.size
        clear hB hin1 hin2
        by_cases hq0 : 0 ≤ q
        · obtain ⟨j, rfl⟩ : ∃ j : Nat, q = j := ⟨q.toNat, by omega⟩
          have hjk : j < k := by omega
          obtain ⟨v, hv1, hv2⟩ := hx j hjk
          obtain ⟨a', c', rfl⟩ : ∃ a' c', v = .slice a' (L j) c' := by
            rcases hv2 with ⟨rfl, h⟩ | ⟨g, _, rfl, _⟩
            · exact ⟨none, 0, by rw [h]⟩
            · exact ⟨_, _, rfl⟩
          have hcv := hr.cellv hv1
          have hcd := hv2.codes
          have hs := HSh.out j hjk
          have hwz := (HROW.out j hjk).2.2.2.2.2
          obtain ⟨l, hl⟩ : ∃ l, L j = l := ⟨_, rfl⟩
          rw [hl] at hcv hcd hs hwz
          have HL := Lib.hid hl
          have HCD := Lib.hid hcd
          have HWZ := Lib.hid hwz
          clear hl hcd hwz hx hv1 hv2 hr hsz cs
          go_wp2_with fail
          refine (stmts _ l (Z j) _ hs HCD.out HWZ.out).mono ?_
          rintro e w4 ⟨rfl, hM, h4⟩
          have HM := Lib.hid hM
          clear hM
          by_cases hlast : (j : Int) < k - 1
          · go_wp2_with fail
            refine (block av nv cv _).mono ?_
            rintro e w5 ⟨b, rfl, hb5, hc5, h5⟩
            obtain ⟨xs, hown, _⟩ := HM.out
            obtain ⟨i0, hi, hz0, hz1, hz2⟩ := info_parts info75
            have hown5 := hown.kept (grown_of_below h5) (.inr (by simp [Value.ownBlock]))
            have hxl := hown.1
            have HC5 := Lib.hid hc5
            obtain ⟨csr, hrr, _⟩ := RowAt.of_owns hown
            have hrlt := hrr.lt
            clear hown hc5 hrr
            go_wp2_with (at_builtin; refine wpList_append_fits _ rfl _ _ 70 rfl _ 75 i0 2 Try.underlying70 hi hz1 _ l (l + 1) xs rfl (hown5.alloc _) ⟨w5.heap.size, 0, none⟩ 1 1 [.iface 145 (.pointer (some ⟨b, 0, none⟩)), .int .i32 0] rfl rfl append_one ?_ (by omega) ?_)
            case refine_1 =>
              intro u hu
              simp at hu
              rcases hu with rfl | rfl <;> rfl
            intro w6 hown6 hgrow6
            have h46 : Below wr.heap.size wr w6 := by
              have := h4.size
              have := h5.size
              refine Below.grown (w' := w6) (h4.trans ((h5.mono h4.size).trans ?_)) hgrow6 (by go_size) (fun k hk => by cases hk; exact Nat.le_refl _)
              go_grown
            have hc6 : w6.cell? ⟨b, 0, none⟩ = some (.slice av nv cv) := by
              have hbl : b < w5.heap.size := cell_lt HC5.out
              have h7 := h4.size
              rw [World.cell?_of_block (w := w5.alloc (.cells #[.iface 145 (.pointer (some ⟨b, 0, none⟩)), .int .i32 0] 75)) (hgrow6.block b (by go_size) (by simp; omega))]
              exact (World.cell?_alloc_lt _ _ _ hbl).trans HC5.out
            obtain ⟨kk, hft⟩ := I2.out hlast
            have F6 : Hid (FT (fun _ => False) (kk + 1) w6 (.slice (some ⟨wr.heap.size, 0, none⟩) (l + 1) (l + 1)) T) := Made.more (w1 := w4) (w2 := w5) (z := Z j) hs rfl hft h46 (by have := h4.size; omega) hc6 hxl hown6
            have C6 : Hid (Copied w6 w.heap.size k k L Z) := HB.out.below (fun b hb' => h46.block b hb')
            have b6 : Below w.heap.size w w6 := hb.trans (h46.mono hb.size)
            clear hown6 hgrow6 hown5 hxl h46 hc6 hft
            go_wp2
            go_roundw
            case rel => exact ⟨(j : Int) - 1, by omega, by omega, rfl, ⟨_, _, _, rfl, fun h => by omega, fun _ => ⟨kk + 1, F6.out⟩⟩, C6.out, b6⟩
            case measure => first | (simp [intOf]; done) | (simp [intOf]; omega)
          · have hkj : k = j + 1 := by omega
            have HKJ := Lib.hid hkj
            clear hkj
            have F4 : Hid (∃ k, FT (fun _ => False) k w4 (.slice (some ⟨wr.heap.size, 0, none⟩) l (l + 1)) T) := by
              unfold Hid
              have e := HT.out
              rw [HKJ.out] at e
              simp [HL.out] at e
              rw [← e]
              exact HM.out.last hs
            have C4 : Hid (Copied w4 w.heap.size k k L Z) := HB.out.below (fun b hb' => h4.block b hb')
            have b4 : Below w.heap.size w w4 := hb.trans (h4.mono hb.size)
            go_wp2_with fail
            go_roundw
            case rel => exact ⟨(j : Int) - 1, by omega, by omega, rfl, ⟨_, _, _, rfl, fun h => by have := HKJ.out; omega, fun _ => F4.out⟩, C4.out, b4⟩
            case measure => first | (simp [intOf]; done) | (simp [intOf]; omega)
        · obtain rfl : q = -1 := by omega
          have FE : Hid (∃ d, FT (fun _ => False) d wr (.slice av nv cv) T) := by
            by_cases h0 : k = 0
            · have e := HT.out
              rw [if_pos h0] at e
              have e2 := I1.out (by omega)
              rw [← e, e2]
              exact ⟨0, .inl ⟨_, _, rfl, rfl⟩⟩
            · exact I2.out (by omega)
          obtain ⟨dd, hft⟩ := FE.out
          clear FE
          go_wp2_with fail
          refine (falls33 _ dd _ _ _ T _ hft).mono ?_
          rintro e w4 ⟨rfl, rfl⟩
          clear hft
          by_cases h0 : k = 0
          · subst h0
            obtain rfl : true = T := by simpa using HT.out
            go_wp2
            go_ret
            exact ⟨rfl, hb⟩
          · obtain ⟨m, rfl⟩ : ∃ m, k = m + 1 := ⟨k - 1, by omega⟩
            obtain ⟨v, hv1, hv2⟩ := hx m (by omega)
            have hs := HSh.out m (by omega)
            have hwz := (HROW.out m (by omega)).2.2.2.2.2
            have e := HT.out
            simp at e
            obtain ⟨l, hl⟩ : ∃ l, L m = l := ⟨_, rfl⟩
            rw [hl] at hv2 hs hwz e
            have hcv := hr.cellv hv1
            rcases hv2 with ⟨rfl, rfl⟩ | ⟨g, _, rfl, hcz⟩
            · obtain rfl : true = T := by simpa [lastT] using e
              clear e hwz hx hl HT I1 I2
              go_wp2
              go_ret
              exact ⟨rfl, hb⟩
            · cases l with
              | zero =>
                obtain rfl : true = T := by simpa [lastT] using e
                clear e hcz hwz hx hl HT I1 I2
                go_wp2
                go_ret
                exact ⟨rfl, hb⟩
              | succ l =>
                have hy := hcz l (by omega)
                have hw := hwz l (by omega)
                simp [lastT] at e
                rw [← List.getD_eq_getElem?_getD] at e
                obtain ⟨y, hyy⟩ : ∃ y, (Z m).getD l 0 = y := ⟨_, rfl⟩
                rw [hyy] at hy hw e
                clear hyy hcz hwz hx hl HT I1 I2
                have h8 : y % 8 = 0 ∨ y % 8 = 5 ∨ y % 8 = 1 ∨ y % 8 = 2 ∨ y % 8 = 3 ∨ y % 8 = 4 ∨ y % 8 = 6 ∨ y % 8 = 7 := by omega
                rcases h8 with h8 | h8 | h8 | h8 | h8 | h8 | h8 | h8
                all_goals
                  simp [through, h8] at e
                  subst e
                  go_wp2_with fail
                  go_ret
                  exact ⟨rfl, hb⟩

theorem walk (a0 : Option Addr) (len0 cap0 : Nat) (A0 : Nat → Option Addr) (L0 C0 : Nat → Nat) (z0 : Nat → List Int) (w : World) (w0 : IsRows .u8 w a0 len0 cap0 A0 L0 C0 z0) :
    Calls Try.prog 7 #[.slice a0 len0 cap0] w fun e w' => e = .returned (.bool true) ∧ Below w.heap.size w w' := by
  rcases w0 with ⟨rfl, rfl, rfl⟩ | ⟨x, rfl, hl, hm, h⟩
  · exact walk_nil w
  · refine walk_some x len0 cap0 A0 L0 C0 z0 w hl hm fun r hr => ?_
    obtain ⟨h1, h2, h3, h4, h5, h6, h7⟩ := h r (by omega)
    refine ⟨h1, h2, h3, h6, fun x' hx i hi => h7 x' hx i (by omega), fun i hi => ?_⟩
    have := bounds_u8 (h5 ((z0 r).getD i 0) (by rw [List.getD_eq_getElem?_getD, List.getElem?_eq_getElem (by omega)]; simp))
    omega

end Go.Proofs.Ytailfkedgdlldab.fnCaseBodyFallThroughTable
