import Derived.Test.YtjngpnijogfmdadKit
import Derived.Test.YtjngpnijogfmdadApB
namespace Go.Proofs.Ytjngpnijogfmdad.fnAppendIfOrLabelBodyKeepsPrefixAndScope
open Go.ChangeShapes Go.WideShapes Go.ChangeAt Go.RowKit
set_option linter.unusedVariables false
set_option maxRecDepth 100000
set_option maxHeartbeats 2000000

/-- What a made block comes to. -/
def Blk (w : World) (m : Nat) (C : Nat → Bool) (loc : Int) (e : Ending) (w' : World) : Prop := ∃ B R2 T u l, e = .returned (.agg #[.iface 39 (.pointer (some ⟨B, 0, none⟩)), .int .i32 loc]) ∧ w'.cell? ⟨B, 0, none⟩ = some (.slice (some ⟨R2, 0, none⟩) m m) ∧ Part w' R2 m m T u l C ∧ Below w.heap.size w w'
theorem Part_other {w : World} {R n k b j : Nat} {v : Value} {ds : Array Value} {T u : Nat → Nat} {l : Nat → Int} {C : Nat → Bool} (h : Part w R n k T u l C) (hb : RowAt w b ds 32) (hne : R ≠ b) : Part (w.setCell ⟨b, j, none⟩ v) R n k T u l C := by
  obtain ⟨⟨cs, hr, hs, hx⟩, hd⟩ := h
  exact ⟨⟨cs, hr.set_other hne _ _, hs, hx⟩, fun i hi => ⟨(hd i hi).1, Sd_set (hd i hi).2 hb _ _⟩⟩
def I64s (w : World) (R m : Nat) (y : Nat → Int) : Prop := ∀ i, i < m → w.cell? ⟨R, i, none⟩ = some (.int .i64 (y i)) ∧ 0 ≤ y i ∧ y i ≤ 8

theorem branchB (kind loc start : Int) (R3 m : Nat) (y : Nat → Int) (w : World) (hm : m ≤ 65536) (l0 : 0 ≤ loc) (l1 : loc ≤ 100000) (s0 : 0 ≤ start) (s1 : start ≤ 100000) (hy : I64s w R3 m y) :
    Calls Try.prog 6 #[.bool true, .int .i64 kind, .slice (some ⟨R3, 0, none⟩) m m, .int .i64 loc, .int .i64 start] w (Blk w m (fun i => decide (5 ≤ y i)) loc) := by
  obtain ⟨i0, hi, hz0, hz1, hz2⟩ := info_parts info32
  have HYS := Lib.hid hy
  clear hy
  go_enter Try.func6, Try.ntmps6
  go_wp2_with (at_make; refine wpList_make_full _ rfl _ _ 24 rfl (w.heap.size + 1) 32 i0 _ 2 Try.underlying24 hi hz0 hz1 .i64 .i64 _ _ m rfl rfl rfl rfl (by rw [hz2]; omega) (by unfold maxLen; omega) (by simp) ?_; intro w1 hown hgrow)
  clear hi hz0 hz1 hz2 i0
  have hsz : (w.alloc (.cells #[.nilIface, .int .i32 0] 32)).heap.size = w.heap.size + 1 := by simp
  rw [hsz] at hown
  obtain ⟨cs0, hr0, hs0, _⟩ := RowAt.of_owns hown
  have hb1 : Below (w.heap.size + 1) (w.alloc (.cells #[.nilIface, .int .i32 0] 32)) w1 := (Below.refl _ _).grown hgrow (by omega) (fun k hk => by cases hk)
  have hB1 : ∃ T u l, Part w1 (w.heap.size + 1) m 0 T u l (fun i => decide (5 ≤ y i)) := ⟨fun _ => 0, fun _ => 0, fun _ => 0, ⟨cs0, hr0, by omega, fun i hi => by omega⟩, fun i hi => by omega⟩
  have hrow1 : RowAt w1 w.heap.size #[.nilIface, .int .i32 0] 32 := (RowAt.new w _ _).below hb1 (by omega)
  have hbw1 : Below w.heap.size w w1 := Below.trans (by go_grown) (hb1.mono (by omega))
  clear hown hgrow hr0 hs0 hb1 hsz
  go_loopw [12] (fun v12 wr => ∃ k : Nat, k ≤ m ∧ v12 = .int .i64 k ∧ (∃ T u l, Part wr (w.heap.size + 1) m k T u l (fun i => decide (5 ≤ y i))) ∧ RowAt wr w.heap.size #[.nilIface, .int .i32 0] 32 ∧ Below w.heap.size w wr) (fun v12 _ => m - (intOf v12).toNat)
  case atStart => exact ⟨0, Nat.zero_le _, rfl, hB1, hrow1, hbw1⟩
  case round =>
    obtain ⟨k, hk, rfl, ⟨T, u, l, hP⟩, hrow, hb⟩ := hrel
    clear hB1 hrow1 hbw1
    have HP := Lib.hid hP
    have HR := Lib.hid hrow
    have HB := Lib.hid hb
    obtain ⟨cs, hr, hs, hx⟩ := id hP.row
    have hRlt := hr.lt
    have hsz := hb.size
    clear hP hrow hb hr hs hx cs
    by_cases hlt : k < m
    · obtain ⟨hcx, z0, z1⟩ := HYS.out k hlt
      have hc := later hcx HB.out
      obtain ⟨q, hq⟩ : ∃ q, y k = q := ⟨_, rfl⟩
      rw [hq] at hc z0 z1
      have HY := Lib.hid hq
      clear hq hcx
      have hR3 := cell_lt hc
      go_wp2_with fail
      refine (simple q _ _ (by omega) (by omega) (by omega) (by omega)).mono ?_
      rintro e w2 ⟨T0, u0, rfl, ht, hd, h2⟩
      have HP2 := Lib.hid (Part_below HP.out h2)
      obtain ⟨cs, hr, hs, hx⟩ := HP2.out.row
      obtain ⟨x0, hx0⟩ : ∃ x0, cs[k * 2]? = some x0 := ⟨_, Array.getElem?_eq_getElem (by omega)⟩
      obtain ⟨x1, hx1⟩ : ∃ x1, cs[k * 2 + 1]? = some x1 := ⟨_, Array.getElem?_eq_getElem (by omega)⟩
      have q0 := hr.cellv hx0
      have q1 := hr.cellv hx1
      have q2 := hr.frozen (k * 2)
      have q3 := hr.frozen (k * 2 + 1)
      have hst := fun (A : Addr) (W : World) (m : Mode) => run_store Try.prog W A (.iface T0 (.pointer (some ⟨u0, 0, none⟩))) m rfl
      have HT := Lib.hid ht
      have HD := Lib.hid hd
      have HB2 := Lib.hid (HB.out.trans (h2.mono HB.out.size))
      have HR2 := Lib.hid ((HR.out.below h2 HR.out.lt).set_other (show w.heap.size ≠ w.heap.size + 1 by omega) (k * 2) (.iface T0 (.pointer (some ⟨u0, 0, none⟩))))
      have hs2 := h2.size
      clear hx0 hx1 hx hr hs HP hd ht h2 HB HR
      go_wp2
      go_roundw
      case rel => exact ⟨k + 1, by omega, by go_num, ⟨_, _, _, Part_step HP2.out hlt HT.out HD.out (by show decide (5 ≤ y k) = _; rw [HY.out])⟩, HR2.out.set_other (by omega) _ _, (HB2.out.setCell (by show w.heap.size ≤ w.heap.size + 1; omega) _).setCell (by show w.heap.size ≤ w.heap.size + 1; omega) _⟩
      case measure => simp [intOf]; omega
    · obtain rfl : k = m := by omega
      have c0 := HR.out.cellv (j := 0) (v := .nilIface) rfl
      have c1 := HR.out.cellv (j := 1) (v := .int .i32 0) rfl
      have f0 := HR.out.frozen
      have hlt0 := HR.out.lt
      go_wp2
      have r0 : RowAt ((wr.setCell ⟨w.heap.size, 0, none⟩ (.iface 39 (.pointer (some ⟨wr.heap.size + 1, 0, none⟩)))).setCell ⟨w.heap.size, 1, none⟩ (.int .i32 loc)) w.heap.size #[.iface 39 (.pointer (some ⟨wr.heap.size + 1, 0, none⟩)), .int .i32 loc] 32 := (HR.out.set 0 _).set 1 _
      have q0 : (wr.setCell ⟨w.heap.size, 0, none⟩ (.iface 39 (.pointer (some ⟨wr.heap.size + 1, 0, none⟩)))).cell? ⟨w.heap.size, 0, none⟩ = some (.iface 39 (.pointer (some ⟨wr.heap.size + 1, 0, none⟩))) := (HR.out.set 0 _).cellv rfl
      have q1 : ((wr.setCell ⟨w.heap.size, 0, none⟩ (.iface 39 (.pointer (some ⟨wr.heap.size + 1, 0, none⟩)))).setCell ⟨w.heap.size, 1, none⟩ (.int .i32 loc)).cell? ⟨w.heap.size, 1, none⟩ = some (.int .i32 loc) := r0.cellv rfl
      exact bodyPost_ret (v := .agg #[.iface 39 (.pointer (some ⟨wr.heap.size + 1, 0, none⟩)), .int .i32 loc]) (by simp [results, Try.results6, go_sem, q0, q1, hlt0]) rfl
        ⟨wr.heap.size + 1, w.heap.size + 1, T, u, l, rfl, (newAt (by simp)).cellv rfl, Part_below (Part_other (Part_other HP.out HR.out (by omega)) (HR.out.set 0 _) (by omega)) (by go_grown),
          (((HB.out.setCell (Nat.le_refl _) _).setCell (Nat.le_refl _) _).alloc (by simpa using hsz) _).alloc (by simp; omega) _⟩

theorem branchS (kind loc start : Int) (a : Option Addr) (m c : Nat) (w : World) (k0 : 0 ≤ kind) (k1 : kind ≤ 8) (l0 : 0 ≤ loc) (l1 : loc ≤ 100000) :
    Calls Try.prog 6 #[.bool false, .int .i64 kind, .slice a m c, .int .i64 loc, .int .i64 start] w (Stm w loc (decide (5 ≤ kind))) := by
  go_enter Try.func6, Try.ntmps6
  go_wp2_with fail
  refine (simple kind _ _ (by omega) (by omega) (by omega) (by omega)).mono ?_
  rintro e w2 ⟨T0, u0, rfl, ht, hd, h2⟩
  have hrow : RowAt w2 w.heap.size #[.nilIface, .int .i32 0] 32 := (RowAt.new w _ _).below h2 (by simp)
  have c0 := hrow.cellv (j := 0) (v := .nilIface) rfl
  have c1 := hrow.cellv (j := 1) (v := .int .i32 0) rfl
  have f0 := hrow.frozen
  have hlt0 := hrow.lt
  have hst := fun (A : Addr) (W : World) (m : Mode) => run_store Try.prog W A (.iface T0 (.pointer (some ⟨u0, 0, none⟩))) m rfl
  have HR := Lib.hid hrow
  have HT := Lib.hid ht
  have HD := Lib.hid hd
  have HB := Lib.hid (show Below w.heap.size w w2 from Below.trans (by go_grown) (h2.mono (by simp)))
  clear hrow ht hd h2
  go_wp2_with fail
  have r0 : RowAt ((w2.setCell ⟨w.heap.size, 0, none⟩ (.iface T0 (.pointer (some ⟨u0, 0, none⟩)))).setCell ⟨w.heap.size, 1, none⟩ (.int .i32 loc)) w.heap.size #[.iface T0 (.pointer (some ⟨u0, 0, none⟩)), .int .i32 loc] 32 := (HR.out.set 0 _).set 1 _
  have q0 : (w2.setCell ⟨w.heap.size, 0, none⟩ (.iface T0 (.pointer (some ⟨u0, 0, none⟩)))).cell? ⟨w.heap.size, 0, none⟩ = some (.iface T0 (.pointer (some ⟨u0, 0, none⟩))) := (HR.out.set 0 _).cellv rfl
  have q1 : ((w2.setCell ⟨w.heap.size, 0, none⟩ (.iface T0 (.pointer (some ⟨u0, 0, none⟩)))).setCell ⟨w.heap.size, 1, none⟩ (.int .i32 loc)).cell? ⟨w.heap.size, 1, none⟩ = some (.int .i32 loc) := r0.cellv rfl
  exact bodyPost_ret (v := .agg #[.iface T0 (.pointer (some ⟨u0, 0, none⟩)), .int .i32 loc]) (by simp [results, Try.results6, go_sem, q0, q1]) rfl
    ⟨T0, u0, rfl, HT.out, Sd_set (Sd_set HD.out HR.out _ _) (HR.out.set 0 _) _ _, (HB.out.setCell (Nat.le_refl _) _).setCell (Nat.le_refl _) _⟩

end Go.Proofs.Ytjngpnijogfmdad.fnAppendIfOrLabelBodyKeepsPrefixAndScope
