import Derived.Test.YtjngpnijogfmdacKit
import Derived.Test.YtjngpnijogfmdacTiJ
namespace Go.Proofs.Ytjngpnijogfmdac.fnTryToInsertOptionalChainMarksExactlyTheTail
open Go.ChangeShapes Go.WideShapes Go.ChangeAt Go.RowKit
set_option linter.unusedVariables false
set_option maxRecDepth 100000
set_option maxHeartbeats 2000000

theorem newAt {W : World} {b : Nat} {cs : Array Value} {t : TypeId} (hb : b = W.heap.size) : RowAt (W.alloc (.cells cs t)) b cs t := by
  subst hb
  exact RowAt.new _ _ _
theorem info46 : (Try.prog.info? 46).map (fun i => (i.zero, i.size, i.bytes)) = some (some (.agg #[.pointer none, .pointer none, .pointer none]), 3, 24) := by kernel_rfl

/-- A chain that is built, with its row of nodes. -/
structure Chn (w w' : World) (r : Int) (f : Nat → St) (R ub n : Nat) (b : Nat → Nat) : Prop where
  nd : ∃ cs : Array Value, RowAt w' R cs 46 ∧ cs.size = n * 3 ∧ ∀ i, i < n → ∀ j, j < 3 → cs[i * 3 + j]? = some (nodeP (f i) (b i) j)
  mc : MC w' r ub (Lk f b n)
  lo : ∀ i, i < n → w.heap.size ≤ b i
  gR : w.heap.size ≤ R
def Built8 (w : World) (r : Int) (f : Nat → St) (n : Nat) (e : Ending) (w' : World) : Prop := ∃ b R ub, e = .returned (.tuple #[.agg #[.iface (kindOf (Lk f b n)) (.pointer (some ⟨blk ub (Lk f b n), 0, none⟩)), .int .i32 0], .slice (some ⟨R, 0, none⟩) n n]) ∧ Chn w w' r f R ub n b ∧ Below w.heap.size w w'
def K8s (w : World) (a : Option Addr) (n : Nat) (z : Nat → Int) : Prop := ∀ i, i < n → ∃ x, a = some x ∧ w.cell? (x.add i) = some (.int .u8 (z i)) ∧ 0 ≤ z i ∧ z i ≤ 255
theorem Strs_below {w w1 : World} {a : Option Addr} {nn : Nat} {S : Nat → ByteArray} (h : Strs w a nn S) (hb : Below w.heap.size w w1) : Strs w1 a nn S := fun i hi => by
  obtain ⟨x, e, hc⟩ := h i hi
  exact ⟨x, e, later hc hb⟩

set_option maxHeartbeats 8000000 in
theorem build8 (r : Int) (ak : Option Addr) (n : Nat) (z : Nat → Int) (an : Option Addr) (nn : Nat) (S : Nat → ByteArray) (w : World) (hn : n ≤ 4096) (hnn : nn ≤ 65536) (hz : K8s w ak n z) (hs : Strs w an nn S) (hS : ∀ i, (nameOf nn S i).size ≤ 1048576) :
    Calls Try.prog 8 #[.int .u32 r, .slice ak n n, .slice an nn nn] w (Built8 w r (stp z nn S) n) := by
  obtain ⟨i0, hi, hz0, hz1, hz2⟩ := info_parts info46
  have HZ := Lib.hid hz
  have HS := Lib.hid hs
  have HN := Lib.hid hS
  obtain ⟨f, hf⟩ : ∃ f, stp z nn S = f := ⟨_, rfl⟩
  have HF := Lib.hid hf
  rw [hf]
  clear hz hs hS hf
  go_enter Try.func8, Try.ntmps8
  go_wp2_with (at_make; refine wpList_make_full _ rfl _ _ 35 rfl (w.heap.size + 1 + 1 + 1) 46 i0 _ 3 Try.underlying35 hi hz0 hz1 .i64 .i64 _ _ n rfl rfl rfl rfl (by rw [hz2]; omega) (by unfold maxLen; omega) (by simp) ?_; intro w1 hown hgrow)
  clear hi hz0 hz1 hz2 i0
  have hB1 : ∃ b T v, Bld w w1 r f w.heap.size (w.heap.size + 1 + 1) (w.heap.size + 1 + 1 + 1) (w.heap.size + 1) n 0 b T v := by
    have hsz : (((w.alloc (.cells #[.nilIface, .int .i32 0] 34)).alloc (.cells (idRow r) 51)).alloc (.cells #[.iface 47 (.pointer (some ⟨w.heap.size + 1, 0, none⟩)), .int .i32 0] 34)).heap.size = w.heap.size + 1 + 1 + 1 := by simp
    have hb1 : Below (((w.alloc (.cells #[.nilIface, .int .i32 0] 34)).alloc (.cells (idRow r) 51)).alloc (.cells #[.iface 47 (.pointer (some ⟨w.heap.size + 1, 0, none⟩)), .int .i32 0] 34)).heap.size (((w.alloc (.cells #[.nilIface, .int .i32 0] 34)).alloc (.cells (idRow r) 51)).alloc (.cells #[.iface 47 (.pointer (some ⟨w.heap.size + 1, 0, none⟩)), .int .i32 0] 34)) w1 := (Below.refl _ _).grown hgrow (by omega) (fun k hk => by cases hk)
    obtain ⟨cs0, hr0, hs0, _⟩ := RowAt.of_owns hown
    simp only [World.size_alloc] at hr0
    refine ⟨fun _ => 0, 47, w.heap.size + 1, RowAt.below (((RowAt.new w _ _).alloc _).alloc _) hb1 (by simp; omega), RowAt.below (newAt (by simp)) hb1 (by simp), ⟨cs0, hr0, by omega, fun i hi => by omega⟩, RowAt.below (RowAt.alloc (newAt (by simp)) _) hb1 (by simp), rfl, rfl, by omega, ?_, Below.trans (by go_grown) (hb1.mono (by simp; omega)), fun i hi => by omega, by omega, by omega, by omega⟩
    have := hb1.size
    omega
  clear hown hgrow
  go_loopw [10] (fun v10 wr => ∃ k : Nat, k ≤ n ∧ v10 = .int .i64 k ∧ ∃ b T v, Bld w wr r f w.heap.size (w.heap.size + 1 + 1) (w.heap.size + 1 + 1 + 1) (w.heap.size + 1) n k b T v) (fun v10 _ => n - (intOf v10).toNat)
  case atStart => exact ⟨0, Nat.zero_le _, rfl, hB1⟩
  case round =>
    obtain ⟨k, hk, rfl, b, T, v, hB⟩ := hrel
    clear hB1
    have HB := Lib.hid hB
    have c60 := hB.r6.cellv (j := 0) (v := .nilIface) rfl
    have c61 := hB.r6.cellv (j := 1) (v := .int .i32 0) rfl
    have f6 := hB.r6.frozen
    have c80 := hB.r8.cellv (j := 0) (v := .iface T (.pointer (some ⟨v, 0, none⟩))) rfl
    have c81 := hB.r8.cellv (j := 1) (v := .int .i32 0) rfl
    have f8 := hB.r8.frozen
    have l8 := hB.r8.lt
    obtain ⟨cs, hr, hsz, hx⟩ := hB.nd
    have lR := hr.lt
    have fR := hr.frozen
    have hbs := hB.bl.size
    by_cases hlt : k < n
    · obtain ⟨x, rfl, hcx, z0, z1⟩ := HZ.out k hlt
      have hc := later hcx hB.bl
      obtain ⟨q, hq⟩ : ∃ q, z k = q := ⟨_, rfl⟩
      rw [hq] at hc z0 z1
      have hfk : f k = if q % 3 = 0 then .dot (nameOf nn S k) else if q % 3 = 1 then .idx (nameOf nn S k) else .call := by rw [← HF.out, ← hq]; rfl
      obtain ⟨nm, hnm⟩ : ∃ nm, nameOf nn S k = nm := ⟨_, rfl⟩
      have hns := HN.out k
      rw [hnm] at hfk hns
      have HNM := Lib.hid hnm
      have HSr := Lib.hid (Strs_below HS.out hB.bl)
      obtain ⟨x0, hx0⟩ : ∃ x0, cs[k * 3]? = some x0 := ⟨_, Array.getElem?_eq_getElem (by omega)⟩
      obtain ⟨x1, hx1⟩ : ∃ x1, cs[k * 3 + 1]? = some x1 := ⟨_, Array.getElem?_eq_getElem (by omega)⟩
      obtain ⟨x2, hx2⟩ : ∃ x2, cs[k * 3 + 2]? = some x2 := ⟨_, Array.getElem?_eq_getElem (by omega)⟩
      have q0 := hr.cellv hx0
      have q1 := hr.cellv hx1
      have q2 := hr.cellv hx2
      have HROW := Lib.hid hr
      have HX := Lib.hid (And.intro hx0 (And.intro hx1 hx2))
      clear hcx hq hnm hx hsz hx0 hx1 hx2 hr hB
      by_cases h0 : q % 3 = 0
      · have HFK := Lib.hid (show f k = .dot nm by rw [hfk, if_pos h0])
        clear hfk
        go_wp2_with fail
        refine (name12 an nn S k _ (by omega) (by omega) HSr.out).mono ?_
        rintro e w2 ⟨rfl, rfl⟩
        rw [HNM.out]
        go_wp2_with fail
        go_roundw
        case rel =>
          have HST := Bld_step (u := wr.heap.size) HB.out hlt (Below.refl _ _) (Nat.le_refl _) (by rw [HFK.out]; exact (Below.refl _ _).alloc (Nat.le_refl _) (.cells (dotRow T v nm 0) 54)) (by rw [HFK.out]; exact newAt (by simp))
          rw [HFK.out] at HST
          exact ⟨k + 1, by omega, by go_num, _, _, _, HST⟩
        case measure => simp [intOf]; omega
      by_cases h1 : q % 3 = 1
      · have HFK := Lib.hid (show f k = .idx nm by rw [hfk, if_neg h0, if_pos h1])
        clear hfk
        have h8 := HB.out.r8
        have H8 := Lib.hid h8
        clear h8
        go_wp2_with fail
        refine (name12 an nn S k _ (by omega) (by omega) HSr.out).mono ?_
        rintro e w2 ⟨rfl, rfl⟩
        rw [HNM.out]
        go_wp2_with fail
        go_region_with ((go_at_call 13; (with_reducible refine (utf13 nm _ hns).mono ?_); rintro e w3 ⟨R2, us, rfl, h3, h4, h5⟩; have hb3 : Hid (Below wr.heap.size wr w3) := Below.trans (Below.refl _ _).drew h5; have p80 := later c80 hb3.out; have p81 := later c81 hb3.out; have p0 := later q0 hb3.out; have p1 := later q1 hb3.out; have p2 := later q2 hb3.out; have pf8 := (H8.out.below hb3.out l8).frozen; have pfR := (HROW.out.below hb3.out lR).frozen; have pl8 := (H8.out.below hb3.out l8).lt; have plR := (HROW.out.below hb3.out lR).lt; have pl8a : w.heap.size + 1 + 1 < w3.heap.size + 1 := Nat.lt_succ_of_lt pl8; have plRa : w.heap.size + 1 + 1 + 1 < w3.heap.size + 1 := Nat.lt_succ_of_lt plR; have H3 := Lib.hid h3; have H4 := Lib.hid h4; clear h3 h4 h5))
        all_goals
          go_wp2_with fail
          go_roundw
          case rel =>
            have d8 := H8.out.below hb3.out l8
            have dR := HROW.out.below hb3.out lR
            have n8 : R2 ≠ w.heap.size + 1 + 1 := H3.out.diff d8 (by decide)
            have nR : R2 ≠ w.heap.size + 1 + 1 + 1 := H3.out.diff dR (by decide)
            have HST := Bld_step (u := w3.heap.size + 1) HB.out hlt hb3.out (by omega) (by rw [HFK.out]; exact ((Below.refl _ _).alloc (Nat.le_refl _) (.cells (strRow (some ⟨R2, 0, none⟩) nm.size) 59)).alloc (by simp) (.cells (idxRow T v w3.heap.size 0) 61))
              (by rw [HFK.out]; exact ⟨w3.heap.size, newAt (by simp), R2, us, RowAt.alloc (newAt (by simp)) _, RowAt.alloc (RowAt.alloc (RowAt.set_other (RowAt.set_other (RowAt.set_other (RowAt.set_other (RowAt.set_other H3.out nR _ _) nR _ _) nR _ _) n8 _ _) n8 _ _) _) _, H4.out⟩)
            rw [HFK.out] at HST
            exact ⟨k + 1, by omega, by go_num, _, _, _, HST⟩
          case measure => simp [intOf]; omega
      · have HFK := Lib.hid (show f k = .call by rw [hfk, if_neg h0, if_neg h1])
        have h2 : q % 3 = 2 := by omega
        clear hfk
        go_wp2_with fail
        refine (name12 an nn S k _ (by omega) (by omega) HSr.out).mono ?_
        rintro e w2 ⟨rfl, rfl⟩
        rw [HNM.out]
        go_wp2_with fail
        go_roundw
        case rel =>
          have HST := Bld_step (u := wr.heap.size) HB.out hlt (Below.refl _ _) (Nat.le_refl _) (by rw [HFK.out]; exact (Below.refl _ _).alloc (Nat.le_refl _) (.cells (callRow T v 0) 65)) (by rw [HFK.out]; exact newAt (by simp))
          rw [HFK.out] at HST
          exact ⟨k + 1, by omega, by go_num, _, _, _, HST⟩
        case measure => simp [intOf]; omega
    · obtain rfl : k = n := by omega
      have l6 := hB.r6.lt
      have n6 : w.heap.size ≠ w.heap.size + 1 + 1 + 1 := by omega
      have HND := Lib.hid (And.intro hr (And.intro hsz hx))
      clear hr hsz hx hB
      go_wp2_with fail
      have r0 : RowAt ((wr.setCell ⟨w.heap.size, 0, none⟩ (.iface T (.pointer (some ⟨v, 0, none⟩)))).setCell ⟨w.heap.size, 1, none⟩ (.int .i32 0)) w.heap.size #[.iface T (.pointer (some ⟨v, 0, none⟩)), .int .i32 0] 34 := (HB.out.r6.set 0 _).set 1 _
      have s0 : (wr.setCell ⟨w.heap.size, 0, none⟩ (.iface T (.pointer (some ⟨v, 0, none⟩)))).cell? ⟨w.heap.size, 0, none⟩ = some (.iface T (.pointer (some ⟨v, 0, none⟩))) := (HB.out.r6.set 0 _).cellv rfl
      have s1 : ((wr.setCell ⟨w.heap.size, 0, none⟩ (.iface T (.pointer (some ⟨v, 0, none⟩)))).setCell ⟨w.heap.size, 1, none⟩ (.int .i32 0)).cell? ⟨w.heap.size, 1, none⟩ = some (.int .i32 0) := r0.cellv rfl
      exact bodyPost_ret (v := .tuple #[.agg #[.iface T (.pointer (some ⟨v, 0, none⟩)), .int .i32 0], .slice (some ⟨w.heap.size + 1 + 1 + 1, 0, none⟩) k k]) (by simp [results, Try.results8, go_sem, s0, s1]) rfl
        ⟨b, w.heap.size + 1 + 1 + 1, w.heap.size + 1, by rw [← HB.out.hT, ← HB.out.hv], ⟨⟨cs, (HND.out.1.set_other (fun e => n6 e.symm) _ _).set_other (fun e => n6 e.symm) _ _, HND.out.2.1, HND.out.2.2⟩, MC_setT (HB.out.r6.set 0 _) (.inl rfl) (MC_setT HB.out.r6 (.inl rfl) HB.out.mc), HB.out.lo, by omega⟩, (HB.out.bl.setCell (Nat.le_refl _) _).setCell (Nat.le_refl _) _⟩


end Go.Proofs.Ytjngpnijogfmdac.fnTryToInsertOptionalChainMarksExactlyTheTail
