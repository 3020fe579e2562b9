import Derived.Test.YtmbbabikbmkjpaaKit
import Derived.Test.YtmbbabikbmkjpaaIsD
namespace Go.Proofs.Ytmbbabikbmkjpaa.fnIsSafeForConstLocalPrefixConcat
open Go.ChangeShapes Go.WideShapes Go.ChangeAt Go.RowKit
set_option linter.unusedVariables false
set_option maxRecDepth 100000
set_option maxHeartbeats 2000000

def itB (b0 : Bool) (c : Int) : Bool := if c % 13 = 12 then b0 else flatB c
theorem arr21 (a : Option Addr) (n c u0 : Nat) (b0 : Bool) (z : Nat → Int) (w : World) (hn : n ≤ 131072) (h : Cds w a n z) (hs0 : Safe (fun _ => False) w 61 u0 b0) : Calls Try.prog 21 #[.slice a n c, .agg #[.iface 61 (.pointer (some ⟨u0, 0, none⟩)), .int .i32 0]] w (Arr ((List.range n).all fun i => itB b0 (z i)) w) := by
  obtain ⟨i0, hi, hz0, hz1, hz2⟩ := info_parts info57
  have H := Lib.hid h
  have HS0 := Lib.hid hs0
  clear h hs0
  go_enter Try.func21, Try.ntmps21
  go_wp2_with (at_make; refine wpList_make_full _ rfl _ _ 62 rfl (w.heap.size + 1 + 1) 57 i0 _ 2 Try.underlying62 hi hz0 hz1 .i64 .i64 _ _ n rfl rfl rfl rfl (by rw [hz2]; omega) (by unfold maxLen; omega) (by go_size) ?_)
  intro w1 hown hgrow
  obtain ⟨cs0, hr0, hs0, _⟩ := RowAt.of_owns hown
  have hR : ((w.alloc (.cells #[.iface 61 (.pointer (some ⟨u0, 0, none⟩)), .int .i32 0] 57)).alloc (.cells #[.nilIface, .int .i32 0] 57)).heap.size = w.heap.size + 1 + 1 := by simp
  have HB : Hid (Below w.heap.size w w1) := Below.grown (show Below w.heap.size w ((w.alloc (.cells #[.iface 61 (.pointer (some ⟨u0, 0, none⟩)), .int .i32 0] 57)).alloc (.cells #[.nilIface, .int .i32 0] 57)) by go_grown) hgrow (by go_size) (fun k hk => by cases hk)
  have hr : RowAt w1 (w.heap.size + 1) #[.nilIface, .int .i32 0] 57 := (hgrow.block _ (by simp) (by simp)).trans (RowAt.newAt (W := w.alloc (.cells #[.iface 61 (.pointer (some ⟨u0, 0, none⟩)), .int .i32 0] 57)) (by simp))
  have hp : RowAt w1 w.heap.size #[.iface 61 (.pointer (some ⟨u0, 0, none⟩)), .int .i32 0] 57 := (hgrow.block _ (by simp; omega) (by simp)).trans ((RowAt.new w #[.iface 61 (.pointer (some ⟨u0, 0, none⟩)), .int .i32 0] 57).alloc (.cells #[.nilIface, .int .i32 0] 57))
  have HP := Lib.hid hp
  have HR := Lib.hid hr
  have HBD : Hid (Bld (fun j => j = w.heap.size + 1 + 1 ∨ j = w.heap.size + 1) w1 (w.heap.size + 1 + 1) n 0 (fun i => itB b0 (z i))) := ⟨cs0, fun _ => 0, fun _ => 0, hR ▸ hr0, hs0, fun i hi => by omega, fun i hi => by omega⟩
  clear hown hgrow hi hz0 hz1 hz2 i0 hr hp hr0 hs0 hR
  go_wp2_with fail
  go_loopw [6] (fun v6 wr => ∃ k : Nat, k ≤ n ∧ v6 = .int .i64 k ∧ Bld (fun j => j = w.heap.size + 1 + 1 ∨ j = w.heap.size + 1) wr (w.heap.size + 1 + 1) n k (fun i => itB b0 (z i)) ∧ RowAt wr (w.heap.size + 1) #[.nilIface, .int .i32 0] 57 ∧ RowAt wr w.heap.size #[.iface 61 (.pointer (some ⟨u0, 0, none⟩)), .int .i32 0] 57 ∧ Below w.heap.size w wr) (fun v6 _ => n - (intOf v6).toNat)
  case atStart => exact ⟨0, Nat.zero_le _, rfl, HBD.out, HR.out, HP.out, HB.out⟩
  case round =>
    clear HBD HR HB HP
    obtain ⟨k, hk, rfl, hbd, hrr, hpp, hb⟩ := hrel
    have HP := Lib.hid hpp
    have HBD := Lib.hid hbd
    have HR := Lib.hid hrr
    have HB := Lib.hid hb
    by_cases hlt : k < n
    · obtain ⟨x, rfl, hc, hcd⟩ := H.out k hlt
      have hc' := later hc hb
      have HC := Lib.hid hcd
      obtain ⟨hc0, hc1⟩ := hcd
      obtain ⟨v, hv⟩ : ∃ v, z k = v := ⟨_, rfl⟩
      rw [hv] at hc' hc0 hc1
      have HV := Lib.hid hv
      have z1 := hbd.lt
      have p0 := hpp.cellv (j := 0) (v := .iface 61 (.pointer (some ⟨u0, 0, none⟩))) rfl
      have p1 := hpp.cellv (j := 1) (v := .int .i32 0) rfl
      have HS0' := Lib.hid (HS0.out.kept (FrX.below hb))
      clear hbd hrr hpp hb hc hv
      have HCV := Lib.hid (show codes v from ⟨hc0, hc1⟩)
      have HF : Hid (∀ (u' : World) (U u : Nat), Below wr.drew.heap.size wr.drew u' → Safe (fun j => j = w.heap.size + 1 + 1 ∨ j = w.heap.size + 1) u' U u (itB b0 v) → (∃ o, u'.cell? ⟨w.heap.size + 1 + 1, k * 2, none⟩ = some o) ∧ (∃ o, u'.cell? ⟨w.heap.size + 1 + 1, k * 2 + 1, none⟩ = some o) ∧ (∀ o, u'.frozen? ⟨w.heap.size + 1 + 1, o, none⟩ = false) ∧
          Bld (fun j => j = w.heap.size + 1 + 1 ∨ j = w.heap.size + 1) ((u'.setCell ⟨w.heap.size + 1 + 1, k * 2, none⟩ (.iface U (.pointer (some ⟨u, 0, none⟩)))).setCell ⟨w.heap.size + 1 + 1, k * 2 + 1, none⟩ (.int .i32 0)) (w.heap.size + 1 + 1) n (k + 1) (fun i => itB b0 (z i)) ∧ RowAt u' (w.heap.size + 1) #[.nilIface, .int .i32 0] 57 ∧ RowAt u' w.heap.size #[.iface 61 (.pointer (some ⟨u0, 0, none⟩)), .int .i32 0] 57 ∧ Below w.heap.size w u') := fun u' U u h hS => by
        have hb2 : Below wr.heap.size wr u' := ⟨h.os, h.tape, h.output, h.size, h.block⟩
        obtain ⟨h1, h2, h3⟩ := (HBD.out.below hb2).old hlt
        exact ⟨h1, h2, h3, HBD.out.step (.inl rfl) hlt hb2 (by rw [HV.out]; exact hS), HR.out.below hb2 HR.out.lt, HP.out.below hb2 HP.out.lt, HB.out.trans (hb2.mono HB.out.size)⟩
      by_cases h12 : v % 13 = 12
      · have HS1 : Hid (∀ u' : World, Below wr.drew.heap.size wr.drew u' → Safe (fun j => j = w.heap.size + 1 + 1 ∨ j = w.heap.size + 1) u' 61 u0 (itB b0 v)) := fun u' h => by
          rw [itB, if_pos h12]
          exact (HS0.out.far (X := fun j => j = w.heap.size + 1 + 1 ∨ j = w.heap.size + 1) (fun j hj => by rcases hj with rfl | rfl <;> omega)).kept (FrX.below (HB.out.trans ((⟨h.os, h.tape, h.output, h.size, h.block⟩ : Below wr.heap.size wr u').mono HB.out.size)))
        go_wp2_with fail
        go_region_with (((go_at_call 28; go_loud ((with_reducible refine (item_n v u0 _ h12 HCV.out).mono ?_); rintro e w2 ⟨rfl, hb2⟩; obtain ⟨⟨o0, ho0⟩, ⟨o1, ho1⟩, ho2, hst, hr2, hp2, hB2⟩ := HF.out _ _ _ hb2 (HS1.out _ hb2); have HST := Lib.hid hst; have HR2 := Lib.hid hr2; have HP2 := Lib.hid hp2; have HB2 := Lib.hid hB2; clear hb2 hst hr2 hp2 hB2))))
        all_goals
          go_wp2_with fail
          go_roundw
          case rel => exact ⟨k + 1, by omega, by go_num, HST.out, (HR2.out.set_other (by omega) _ _).set_other (by omega) _ _, (HP2.out.set_other (by omega) _ _).set_other (by omega) _ _, (HB2.out.setCell (by show w.heap.size ≤ w.heap.size + 1 + 1; omega) _).setCell (by show w.heap.size ≤ w.heap.size + 1 + 1; omega) _⟩
          case measure => simp [intOf]; omega
      · have HN := Lib.hid h12
        clear h12
        go_wp2_with fail
        go_region_with (((go_at_call 28; go_loud ((with_reducible refine (item_f v u0 _ HN.out HCV.out).mono ?_); rintro e w2 ⟨U, u, rfl, hs, hb2⟩; obtain ⟨⟨o0, ho0⟩, ⟨o1, ho1⟩, ho2, hst, hr2, hp2, hB2⟩ := HF.out _ _ _ hb2 (by rw [itB, if_neg HN.out]; exact hs _ (fun j hj => by rcases hj with rfl | rfl <;> (show _ < wr.heap.size) <;> omega)); have HST := Lib.hid hst; have HR2 := Lib.hid hr2; have HP2 := Lib.hid hp2; have HB2 := Lib.hid hB2; clear hs hb2 hst hr2 hp2 hB2))))
        all_goals
          go_wp2_with fail
          go_roundw
          case rel => exact ⟨k + 1, by omega, by go_num, HST.out, (HR2.out.set_other (by omega) _ _).set_other (by omega) _ _, (HP2.out.set_other (by omega) _ _).set_other (by omega) _ _, (HB2.out.setCell (by show w.heap.size ≤ w.heap.size + 1 + 1; omega) _).setCell (by show w.heap.size ≤ w.heap.size + 1 + 1; omega) _⟩
          case measure => simp [intOf]; omega
    · obtain rfl : k = n := by omega
      have c0 := hrr.cellv (j := 0) (v := .nilIface) rfl
      have c1 := hrr.cellv (j := 1) (v := .int .i32 0) rfl
      have f0 := hrr.frozen
      have z0 := hrr.lt
      have hsz := hb.size
      have z1 := hbd.lt
      clear hbd hrr hpp hb
      go_wp2_with fail
      have q0 : (wr.setCell ⟨w.heap.size + 1, 0, none⟩ (.iface 61 (.pointer (some ⟨wr.heap.size, 0, none⟩)))).cell? ⟨w.heap.size + 1, 0, none⟩ = some (.iface 61 (.pointer (some ⟨wr.heap.size, 0, none⟩))) := (HR.out.set 0 _).cellv rfl
      have q1 : ((wr.setCell ⟨w.heap.size + 1, 0, none⟩ (.iface 61 (.pointer (some ⟨wr.heap.size, 0, none⟩)))).setCell ⟨w.heap.size + 1, 1, none⟩ (.int .i32 0)).cell? ⟨w.heap.size + 1, 1, none⟩ = some (.int .i32 0) := ((HR.out.set 0 _).set 1 _).cellv rfl
      refine bodyPost_ret (v := .agg #[.iface 61 (.pointer (some ⟨wr.heap.size, 0, none⟩)), .int .i32 0]) (by simp [results, Try.results21, go_sem, q0, q1, z0]) rfl
        ⟨_, rfl, Bld.done (rest := [.int .i32 0, .int .i32 0, .bool false, .bool false]) (Bld.below ((HBD.out.setX (.inr rfl) (by omega)).setX (.inr rfl) (by omega)) (by go_grown)) (.inl rfl) hn (RowAt.newAt (by simp)), ((HB.out.setCell (by show w.heap.size ≤ w.heap.size + 1; omega) _).setCell (by show w.heap.size ≤ w.heap.size + 1; omega) _).alloc (by simpa using hsz) _⟩

end Go.Proofs.Ytmbbabikbmkjpaa.fnIsSafeForConstLocalPrefixConcat
