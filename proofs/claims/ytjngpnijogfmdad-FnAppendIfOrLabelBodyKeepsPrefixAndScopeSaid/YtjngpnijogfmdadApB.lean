import Derived.Test.YtjngpnijogfmdadKit
import Derived.Test.YtjngpnijogfmdadApA
import Derived.LaidEql
namespace Go.Proofs.Ytjngpnijogfmdad.fnAppendIfOrLabelBodyKeepsPrefixAndScope
open Go.ChangeShapes Go.WideShapes Go.ChangeAt Go.RowKit
set_option linter.unusedVariables false
set_option maxRecDepth 100000
set_option maxHeartbeats 2000000

theorem info32 : (Try.prog.info? 32).map (fun i => (i.zero, i.size, i.bytes)) = some (some (.agg #[.nilIface, .int .i32 0]), 2, 24) := by kernel_rfl
def upN {α : Type} (f : Nat → α) (k : Nat) (v : α) : Nat → α := fun i => if i = k then v else f i
theorem upN_same {α : Type} (f : Nat → α) (k : Nat) (v : α) : upN f k v k = v := if_pos rfl
theorem upN_other {α : Type} (f : Nat → α) {k i : Nat} (v : α) (h : i ≠ k) : upN f k v i = f i := if_neg h

/-- k of n statements are made. -/
structure Part (w : World) (R n k : Nat) (T u : Nat → Nat) (l : Nat → Int) (C : Nat → Bool) : Prop where
  row : ∃ cs : Array Value, RowAt w R cs 32 ∧ cs.size = n * 2 ∧ ∀ i, i < k → cs[i * 2]? = some (.iface (T i) (.pointer (some ⟨u i, 0, none⟩))) ∧ cs[i * 2 + 1]? = some (.int .i32 (l i))
  sd : ∀ i, i < k → T i ∈ simT ∧ Sd w (T i) (u i) (C i)
theorem Part_stms {w : World} {R n : Nat} {T u : Nat → Nat} {l : Nat → Int} {C : Nat → Bool} (h : Part w R n n T u l C) : Stms w R n T u l := by
  obtain ⟨cs, hr, hs, hx⟩ := h.row
  exact fun i hi => ⟨hr.cellv (hx i hi).1, hr.cellv (hx i hi).2⟩
theorem Part_below {w w1 : World} {R n k : Nat} {T u : Nat → Nat} {l : Nat → Int} {C : Nat → Bool} (h : Part w R n k T u l C) (hb : Below w.heap.size w w1) : Part w1 R n k T u l C := by
  obtain ⟨⟨cs, hr, hs, hx⟩, hd⟩ := h
  exact ⟨⟨cs, hr.below hb hr.lt, hs, hx⟩, fun i hi => ⟨(hd i hi).1, Sd_below (hd i hi).2 hb⟩⟩
theorem Part_step {w : World} {R n k T0 u0 : Nat} {l0 : Int} {c0 : Bool} {T u : Nat → Nat} {l : Nat → Int} {C : Nat → Bool} (h : Part w R n k T u l C) (hk : k < n) (ht : T0 ∈ simT) (hc : Sd w T0 u0 c0) (hC : C k = c0) :
    Part ((w.setCell ⟨R, k * 2, none⟩ (.iface T0 (.pointer (some ⟨u0, 0, none⟩)))).setCell ⟨R, k * 2 + 1, none⟩ (.int .i32 l0)) R n (k + 1) (upN T k T0) (upN u k u0) (upN l k l0) C := by
  obtain ⟨⟨cs, hr, hs, hx⟩, hd⟩ := h
  have hr1 := hr.set (k * 2) (.iface T0 (.pointer (some ⟨u0, 0, none⟩)))
  refine ⟨⟨_, hr1.set (k * 2 + 1) (.int .i32 l0), by simp [hs], fun i hi => ?_⟩, fun i hi => ?_⟩
  · by_cases hik : i = k
    · subst hik
      rw [upN_same, upN_same, upN_same]
      refine ⟨?_, ?_⟩
      · rw [Array.getElem?_setIfInBounds, if_neg (by omega), Array.getElem?_setIfInBounds, if_pos rfl, if_pos (by omega)]
      · rw [Array.getElem?_setIfInBounds, if_pos rfl, if_pos (by simp; omega)]
    · rw [upN_other _ _ hik, upN_other _ _ hik, upN_other _ _ hik]
      obtain ⟨e1, e2⟩ := hx i (by omega)
      refine ⟨?_, ?_⟩
      · rw [Array.getElem?_setIfInBounds, if_neg (by omega), Array.getElem?_setIfInBounds, if_neg (by omega)]; exact e1
      · rw [Array.getElem?_setIfInBounds, if_neg (by omega), Array.getElem?_setIfInBounds, if_neg (by omega)]; exact e2
  · by_cases hik : i = k
    · subst hik
      rw [upN_same, upN_same, hC]
      exact ⟨ht, Sd_set (Sd_set hc hr _ _) hr1 _ _⟩
    · rw [upN_other _ _ hik, upN_other _ _ hik]
      exact ⟨(hd i (by omega)).1, Sd_set (Sd_set (hd i (by omega)).2 hr _ _) hr1 _ _⟩

/-- What the prefix comes to. -/
def Pre (w : World) (n : Nat) (e : Ending) (w' : World) : Prop := ∃ T u l C, e = .returned (.slice (some ⟨w.heap.size, 0, none⟩) n n) ∧ Part w' w.heap.size n n T u l C ∧ Below w.heap.size w w'
def U8s (w : World) (a : Option Addr) (n : Nat) (z : Nat → Int) : Prop := ∀ i, i < n → ∃ x, a = some x ∧ w.cell? (x.add i) = some (.int .u8 (z i)) ∧ 0 ≤ z i ∧ z i ≤ 255

theorem pre5 (a : Option Addr) (n c : Nat) (z : Nat → Int) (w : World) (hn : n ≤ 65536) (hz : U8s w a n z) : Calls Try.prog 5 #[.slice a n c] w (Pre w n) := by
  obtain ⟨i0, hi, hz0, hz1, hz2⟩ := info_parts info32
  have HZ := Lib.hid hz
  clear hz
  go_enter Try.func5, Try.ntmps5
  go_wp2_with (at_make; refine wpList_make_full _ rfl _ _ 24 rfl w.heap.size 32 i0 _ 2 Try.underlying24 hi hz0 hz1 .i64 .i64 _ _ n rfl rfl rfl rfl (by rw [hz2]; omega) (by unfold maxLen; omega) (Nat.le_refl _) ?_; intro w1 hown hgrow)
  clear hi hz0 hz1 hz2 i0
  obtain ⟨cs0, hr0, hs0, _⟩ := RowAt.of_owns hown
  have hb1 : Below w.heap.size w w1 := (Below.refl _ _).grown hgrow (Nat.le_refl _) (fun k hk => by cases hk)
  have hB1 : ∃ T u l, Part w1 w.heap.size n 0 T u l (fun i => decide (5 ≤ z i % 9)) := ⟨fun _ => 0, fun _ => 0, fun _ => 0, ⟨cs0, hr0, by omega, fun i hi => by omega⟩, fun i hi => by omega⟩
  clear hown hgrow hr0 hs0
  go_loopw [4] (fun v4 wr => ∃ k : Nat, k ≤ n ∧ v4 = .int .i64 k ∧ (∃ T u l, Part wr w.heap.size n k T u l (fun i => decide (5 ≤ z i % 9))) ∧ Below w.heap.size w wr) (fun v4 _ => n - (intOf v4).toNat)
  case atStart => exact ⟨0, Nat.zero_le _, rfl, hB1, hb1⟩
  case round =>
    obtain ⟨k, hk, rfl, ⟨T, u, l, hP⟩, hb⟩ := hrel
    clear hB1 hb1
    by_cases hlt : k < n
    · obtain ⟨x, rfl, hcx, z0, z1⟩ := HZ.out k hlt
      have hc := later hcx hb
      obtain ⟨y, hy⟩ : ∃ y, z k = y := ⟨_, rfl⟩
      rw [hy] at hc z0 z1
      have HY := Lib.hid hy
      obtain ⟨cs, hr, hs, hx⟩ := id hP.row
      have hRlt := hr.lt
      have HP := Lib.hid hP
      clear hy hcx hx hP hs hr cs
      go_wp2_with fail
      refine (simple (y % 9) _ _ (by omega) (by omega) (by omega) (by omega)).mono ?_
      rintro e w2 ⟨T0, u0, rfl, ht, hd, h2⟩
      have HP2 := Lib.hid (Part_below HP.out h2)
      obtain ⟨cs, hr, hs, hx⟩ := HP2.out.row
      obtain ⟨x0, hx0⟩ : ∃ x0, cs[k * 2]? = some x0 := ⟨_, Array.getElem?_eq_getElem (by omega)⟩
      obtain ⟨x1, hx1⟩ : ∃ x1, cs[k * 2 + 1]? = some x1 := ⟨_, Array.getElem?_eq_getElem (by omega)⟩
      have q0 := hr.cellv hx0
      have q1 := hr.cellv hx1
      have q2 := hr.frozen (k * 2)
      have q3 := hr.frozen (k * 2 + 1)
      have hst := fun (A : Addr) (W : World) (m : Mode) => run_store Try.prog W A (.iface T0 (.pointer (some ⟨u0, 0, none⟩))) m rfl
      have HT := Lib.hid ht
      have HD := Lib.hid hd
      have HB2 := Lib.hid (hb.trans (h2.mono hb.size))
      have hs2 := h2.size
      have hs1 := hb.size
      clear hx0 hx1 hx hr hs HP hd ht h2 hb
      go_wp2
      go_roundw
      case rel => exact ⟨k + 1, by omega, by go_num, ⟨_, _, _, Part_step HP2.out hlt HT.out HD.out (by show decide (5 ≤ z k % 9) = _; rw [HY.out])⟩, (HB2.out.setCell (Nat.le_refl _) _).setCell (Nat.le_refl _) _⟩
      case measure => simp [intOf]; omega
    · obtain rfl : k = n := by omega
      go_wp2
      go_ret
      exact ⟨T, u, l, _, rfl, hP, hb⟩

theorem comp32 : ∀ T ∈ simT, ∃ te i j ms, Try.prog.underlying 28 = some (.interface ms) ∧ Try.prog.underlying T = some (.pointer te) ∧ Try.prog.info? T = some i ∧ i.comparable = true ∧ Try.prog.info? te = some j := by
  have h : ∀ {T te : Nat}, Try.prog.underlying T = some (.pointer te) → (Try.prog.info? T).map (·.comparable) = some true → (Try.prog.info? te).isSome = true → ∃ te i j ms, Try.prog.underlying 28 = some (.interface ms) ∧ Try.prog.underlying T = some (.pointer te) ∧ Try.prog.info? T = some i ∧ i.comparable = true ∧ Try.prog.info? te = some j := by
    intro T te h1 h2 h3
    obtain ⟨i, hi, hc⟩ := Option.map_eq_some_iff.1 h2
    obtain ⟨j, hj⟩ := Option.isSome_iff_exists.1 h3
    exact ⟨te, i, j, _, Try.underlying28, h1, hi, hc, hj⟩
  intro T hT
  simp only [simT, List.mem_cons, List.not_mem_nil, or_false] at hT
  rcases hT with rfl | rfl | rfl | rfl | rfl | rfl | rfl
  · exact h Try.underlying42 (by kernel_rfl) (by kernel_rfl)
  · exact h Try.underlying45 (by kernel_rfl) (by kernel_rfl)
  · exact h Try.underlying56 (by kernel_rfl) (by kernel_rfl)
  · exact h Try.underlying59 (by kernel_rfl) (by kernel_rfl)
  · exact h Try.underlying62 (by kernel_rfl) (by kernel_rfl)
  · exact h Try.underlying67 (by kernel_rfl) (by kernel_rfl)
  · exact h Try.underlying79 (by kernel_rfl) (by kernel_rfl)
theorem same8 (T u : Nat) (l : Int) (w : World) (hT : T ∈ simT) : Calls Try.prog 8 #[.agg #[.iface T (.pointer (some ⟨u, 0, none⟩)), .int .i32 l], .agg #[.iface T (.pointer (some ⟨u, 0, none⟩)), .int .i32 l]] w fun e w' => e = .returned (.bool true) ∧ Below w.heap.size w w' := by
  obtain ⟨te, i, j, ms, h1, h2, h3, h4, h5⟩ := comp32 T hT
  have heq := fun W => run_eql_iface_ptr_same (P := Try.prog) W ⟨u, 0, none⟩ h1 h2 h3 h4 h5
  have hst := fun (A : Addr) (W : World) (m : Mode) => run_store Try.prog W A (.iface T (.pointer (some ⟨u, 0, none⟩))) m rfl
  clear h1 h2 h3 h4 h5
  go_enter Try.func8, Try.ntmps8
  go_wp2
  go_ret
  exact ⟨rfl, by go_grown⟩

/-- What the loop over the statements finds. -/
def Any (w : World) (m : Nat) (C : Nat → Bool) (e : Ending) (w' : World) : Prop := ∃ q, e = .returned (.bool q) ∧ (q = false → ∀ i, i < m → C i = false) ∧ (q = true → 0 < m) ∧ Below w.heap.size w w'
theorem any14 (R m : Nat) (T u : Nat → Nat) (l : Nat → Int) (C : Nat → Bool) (w : World) (hm : m ≤ 65536) (hP : Part w R m m T u l C) : Calls Try.prog 14 #[.slice (some ⟨R, 0, none⟩) m m] w (Any w m C) := by
  have HP := Lib.hid hP
  clear hP
  go_enter Try.func14, Try.ntmps14
  go_wp2
  go_loopw [7] (fun v7 wr => ∃ k : Nat, k ≤ m ∧ v7 = .int .i64 k ∧ (∀ i, i < k → C i = false) ∧ Below w.heap.size w wr) (fun v7 _ => m - (intOf v7).toNat)
  case atStart => exact ⟨0, Nat.zero_le _, rfl, fun i hi => by omega, Below.refl _ _⟩
  case round =>
    obtain ⟨k, hk, rfl, hno, hb⟩ := hrel
    by_cases hlt : k < m
    · obtain ⟨c0, c1⟩ := Stms_below (Part_stms HP.out) hb k hlt
      have hd := Sd_below (HP.out.sd k hlt).2 hb
      obtain ⟨T0, hT0⟩ : ∃ x, T k = x := ⟨_, rfl⟩
      obtain ⟨u0, hu0⟩ : ∃ x, u k = x := ⟨_, rfl⟩
      obtain ⟨l0, hl0⟩ : ∃ x, l k = x := ⟨_, rfl⟩
      obtain ⟨q, hq⟩ : ∃ x, C k = x := ⟨_, rfl⟩
      rw [hT0, hu0] at c0
      rw [hl0] at c1
      rw [hT0, hu0, hq] at hd
      have hst := fun (A : Addr) (W : World) (m : Mode) => run_store Try.prog W A (.iface T0 (.pointer (some ⟨u0, 0, none⟩))) m rfl
      have HD := Lib.hid hd
      have HQ := Lib.hid hq
      have HN := Lib.hid hno
      have hsz := hb.size
      have HB := Lib.hid hb
      have hR := cell_lt c0
      clear hT0 hu0 hl0 hq hd hno hb
      go_wp2_with fail
      refine (care _ T0 u0 q l0 (Sd_below HD.out (by go_grown))).mono ?_
      rintro e w2 ⟨rfl, h2⟩
      have hb2 : Below w.heap.size w w2 := HB.out.trans (Below.mono (B := wr.heap.size) (Below.trans (by go_grown) (h2.mono (by go_size))) hsz)
      clear h2 HB
      cases q
      · go_wp2
        go_roundw
        case rel =>
          refine ⟨k + 1, by omega, by go_num, fun i hi => ?_, hb2⟩
          by_cases hik : i = k
          · subst hik; exact HQ.out
          · exact HN.out i (by omega)
        case measure => simp [intOf]; omega
      · go_wp2
        go_ret
        exact ⟨true, rfl, (fun e => by cases e), (fun _ => by omega), hb2⟩
    · obtain rfl : k = m := by omega
      go_wp2
      go_ret
      exact ⟨false, rfl, fun _ => hno, (fun e => by cases e), hb⟩

end Go.Proofs.Ytjngpnijogfmdad.fnAppendIfOrLabelBodyKeepsPrefixAndScope
