import Derived.Test.YthhophbddnfnnaaKit
import Derived.Test.YthhophbddnfnnaaJoinB
namespace Go.Proofs.Ythhophbddnfnnaa.fnJoinAllWithCommaKeepsPresentInOrder
open Go.ChangeShapes Go.WideShapes Go.ChangeAt Go.RowKit
set_option linter.unusedVariables false
set_option maxRecDepth 100000
set_option maxHeartbeats 2000000

/-- The indices below k that hold a literal. -/
def idxs (z : List Int) (k : Nat) : List Nat := (List.range k).filter fun i => z.getD i 0 != 0

theorem idxs_hole {z : List Int} {k : Nat} (h : z.getD k 0 = 0) : idxs z (k + 1) = idxs z k := by
  have h2 : (z.getD k 0 != 0) = false := by rw [h]; rfl
  simp only [idxs, List.range_succ, List.filter_append, List.filter_cons, List.filter_nil, h2]
  simp
theorem idxs_more {z : List Int} {k : Nat} (h : z.getD k 0 ≠ 0) : idxs z (k + 1) = idxs z k ++ [k] := by
  have h2 : (z.getD k 0 != 0) = true := by simpa using h
  simp only [idxs, List.range_succ, List.filter_append, List.filter_cons, List.filter_nil, h2]
  simp

theorem World.heap_two (w : World) (R k : Nat) (x y : Value) (h : k ≠ R) : ((w.setCell ⟨R, 0, none⟩ x).setCell ⟨R, 1, none⟩ y).heap[k]? = w.heap[k]? := by
  rw [Below.heap_setCell _ _ _ _ h, Below.heap_setCell _ _ _ _ h]

theorem two_cells {w : World} {R T : Nat} {x0 x1 : Value} (hr : RowAt w R #[x0, x1] T) (d l : Value) :
    RowAt ((w.setCell ⟨R, 0, none⟩ d).setCell ⟨R, 1, none⟩ l) R #[d, l] T := by
  have := (hr.set 0 d).set 1 l
  simpa using this

/-- The chain grows by one. -/
theorem Chain.snoc {X : Nat → Prop} {w : World} {P : Nat → Nat} {is : List Nat} {d l : Value} {i b : Nat} {f : Value} (h : Chain X w P is d l) (hne : is ≠ []) (hX : ¬ X b)
    (hr : RowAt w b #[d, l, num P i, .int .i32 i, .int .u8 36, f] 53) : Chain X w P (i :: is) (.iface 50 (.pointer (some ⟨b, 0, none⟩))) l := by
  cases is with
  | nil => exact absurd rfl hne
  | cons j r => exact ⟨b, d, rfl, hX, hr.cellv (j := 0) rfl, hr.cellv (j := 1) rfl, hr.cellv (j := 2) rfl, hr.cellv (j := 3) rfl, hr.cellv (j := 4) rfl, h⟩

theorem all_ (R n : Nat) (z : List Int) (P : Nat → Nat) (w : World) (hn : n ≤ 16384) (hI : Items w R n n z P) :
    Calls Try.prog 18 #[.slice (some ⟨R, 0, none⟩) n n] w fun e w' => ∃ d q, e = .returned (.agg #[d, .int .i32 q]) ∧ Chain (fun _ => False) w' P (idxs z n).reverse d (.int .i32 q) ∧ Below w.heap.size w w' := by
  have HI := Lib.hid hI
  clear hI
  go_enter Try.func18, Try.ntmps18
  go_wp2
  go_loopw [7, 4] (fun v7 v4 wr => ∃ (k : Nat) (d : Value) (q : Int), k ≤ n ∧ v7 = .int .i64 k ∧ RowAt wr w.heap.size #[d, .int .i32 q] 27 ∧ Chain (fun b => b ≤ w.heap.size) wr P (idxs z k).reverse d (.int .i32 q) ∧ Below w.heap.size w wr) (fun v7 _ _ => n - (intOf v7).toNat)
  case atStart => exact ⟨0, .nilIface, 0, Nat.zero_le _, rfl, RowAt.new _ _ _, rfl, by go_grown⟩
  case round =>
    obtain ⟨k, d, q, hk, rfl, hR, hC, hb⟩ := hrel
    have HR := Lib.hid hR
    have HCh := Lib.hid hC
    have hsz := hb.size
    have hlt2 := hR.lt
    have hst := fun (A : Addr) (W : World) (m : Mode) => run_store Try.prog W A d m hC.one
    have c0 := hR.cellv (j := 0) (v := d) rfl
    have c1 := hR.cellv (j := 1) (v := .int .i32 q) rfl
    have f0 := hR.frozen 0
    have f1 := hR.frozen 1
    clear hR
    by_cases hlt : k < n
    · obtain ⟨cs, hr, hs, hx⟩ := HI.out
      obtain ⟨h1, q2, h2, h3⟩ := hx k hlt
      obtain rfl := h3 hlt
      rw [if_pos hlt] at h1
      have i0 := (hr.below hb hr.lt).cellv h1
      have i1 := (hr.below hb hr.lt).cellv h2
      have hRl : R < wr.heap.size := Nat.lt_of_lt_of_le hr.lt hsz
      clear hr hs hx h1 h2 hC
      by_cases hz : z.getD k 0 = 0
      · rw [itemD, if_pos hz] at i0
        have HX : Hid (idxs z (k + 1) = idxs z k) := idxs_hole hz
        clear hz
        by_cases he : idxs z k = []
        · have hd : d = .nilIface := by
            have := HCh.out
            rw [he] at this
            exact this
          subst hd
          have HE := Lib.hid he
          clear he
          go_wp2_with fail
          refine (join_left q .nilIface (.int .i32 k) _ rfl ⟨_, rfl⟩).mono ?_
          rintro e w2 ⟨rfl, h2⟩
          have r2 := (HR.out.alloc (.cells #[.nilIface, .int .i32 k] 27)).below h2 (by go_size)
          have hs2 := h2.size
          simp only [World.size_alloc] at hs2
          have b12 : Below wr.heap.size wr w2 := Below.trans (by go_grown) (h2.mono (by go_size))
          have b2 : Below w.heap.size w w2 := hb.trans (b12.mono hsz)
          have HR2 := Lib.hid r2
          have d0 := r2.cellv (j := 0) (v := .nilIface) rfl
          have d1 := r2.cellv (j := 1) (v := .int .i32 q) rfl
          have g0 := r2.frozen 0
          have g1 := r2.frozen 1
          clear c0 c1 f0 f1 h2 r2
          go_wp2
          go_roundw
          case rel => exact ⟨k + 1, _, k, by omega, by go_num, two_cells HR2.out _ _, by rw [HX.out, HE.out]; rfl, by go_grown⟩
          case measure => simp [intOf]; omega
        · obtain ⟨T, v, rfl⟩ := HCh.out.isIface (by simpa using he)
          clear he
          go_wp2_with fail
          refine (join_right T v q k _).mono ?_
          rintro e w2 ⟨rfl, h2⟩
          have r2 := (HR.out.alloc (.cells #[.nilIface, .int .i32 k] 27)).below h2 (by go_size)
          have hs2 := h2.size
          simp only [World.size_alloc] at hs2
          have b12 : Below wr.heap.size wr w2 := Below.trans (by go_grown) (h2.mono (by go_size))
          have b2 : Below w.heap.size w w2 := hb.trans (b12.mono hsz)
          have HR2 := Lib.hid r2
          have d0 := r2.cellv (j := 0) (v := .iface T v) rfl
          have d1 := r2.cellv (j := 1) (v := .int .i32 q) rfl
          have g0 := r2.frozen 0
          have g1 := r2.frozen 1
          clear c0 c1 f0 f1 h2 r2
          go_wp2
          go_roundw
          case rel => exact ⟨k + 1, _, q, by omega, by go_num, two_cells HR2.out _ _, by rw [HX.out]; exact Chain.kept (w := wr) (fun b hX hlt => (World.heap_two _ _ _ _ _ (fun e => hX (by omega))).trans (b12.block b hlt)) (fun _ _ => rfl) HCh.out, by go_grown⟩
          case measure => simp [intOf]; omega
      · rw [itemD, if_neg hz] at i0
        have HX : Hid (idxs z (k + 1) = idxs z k ++ [k]) := idxs_more hz
        clear hz
        unfold num at i0
        by_cases he : idxs z k = []
        · have hd : d = .nilIface := by
            have := HCh.out
            rw [he] at this
            exact this
          subst hd
          have HE := Lib.hid he
          clear he
          go_wp2_with fail
          refine (join_left q (num P k) (.int .i32 k) _ rfl ⟨_, rfl⟩).mono ?_
          rintro e w2 ⟨rfl, h2⟩
          have r2 := (HR.out.alloc (.cells #[num P k, .int .i32 k] 27)).below h2 (by go_size)
          have hs2 := h2.size
          simp only [World.size_alloc] at hs2
          have b12 : Below wr.heap.size wr w2 := Below.trans (by go_grown) (h2.mono (by go_size))
          have b2 : Below w.heap.size w w2 := hb.trans (b12.mono hsz)
          have HR2 := Lib.hid r2
          have d0 := r2.cellv (j := 0) (v := .nilIface) rfl
          have d1 := r2.cellv (j := 1) (v := .int .i32 q) rfl
          have g0 := r2.frozen 0
          have g1 := r2.frozen 1
          unfold num at *
          clear c0 c1 f0 f1 h2 r2
          go_wp2
          go_roundw
          case rel => exact ⟨k + 1, _, k, by omega, by go_num, two_cells HR2.out _ _, by rw [HX.out, HE.out]; exact ⟨rfl, rfl⟩, by go_grown⟩
          case measure => simp [intOf]; omega
        · obtain ⟨T, v, rfl⟩ := HCh.out.isIface (by simpa using he)
          have HE := Lib.hid he
          clear he
          go_wp2_with fail
          refine (join_both T 47 v (.pointer (some ⟨P k, 0, none⟩)) q k _).mono ?_
          rintro e w2 ⟨b, rfl, hb2, hrow, h2⟩
          have r2 := (HR.out.alloc (.cells #[.iface 47 (.pointer (some ⟨P k, 0, none⟩)), .int .i32 k] 27)).below h2 (by go_size)
          have hs2 := h2.size
          simp only [World.size_alloc] at hs2
          have b12 : Below wr.heap.size wr w2 := Below.trans (by go_grown) (h2.mono (by go_size))
          have b2 : Below w.heap.size w w2 := hb.trans (b12.mono hsz)
          have HR2 := Lib.hid r2
          have d0 := r2.cellv (j := 0) (v := .iface T v) rfl
          have d1 := r2.cellv (j := 1) (v := .int .i32 q) rfl
          have g0 := r2.frozen 0
          have g1 := r2.frozen 1
          have hbw : w.heap.size < b := by
            simp only [World.size_alloc] at hb2
            omega
          have HS : Hid (Chain (fun b => b ≤ w.heap.size) ((w2.setCell ⟨w.heap.size, 0, none⟩ (.iface 50 (.pointer (some ⟨b, 0, none⟩)))).setCell ⟨w.heap.size, 1, none⟩ (.int .i32 q)) P ([k].reverse ++ (idxs z k).reverse) (.iface 50 (.pointer (some ⟨b, 0, none⟩))) (.int .i32 q)) := by
            refine Chain.snoc (f := .bool false) (b := b) (Chain.kept (w := wr) (fun b hX hlt => (World.heap_two _ _ _ _ _ (fun e => hX (by omega))).trans (b12.block b hlt)) (fun _ _ => rfl) HCh.out) (by simpa using HE.out) (by omega) ?_
            exact (hrow.set_other (by omega) _ _).set_other (by omega) _ _
          clear hrow
          clear c0 c1 f0 f1 h2 r2
          go_wp2
          go_roundw
          case rel => exact ⟨k + 1, _, q, by omega, by go_num, two_cells HR2.out _ _, by rw [HX.out, List.reverse_append]; exact HS.out, by go_grown⟩
          case measure => simp [intOf]; omega
    · obtain rfl : k = n := by omega
      go_wp2
      exact bodyPost_ret (v := .agg #[d, .int .i32 q]) (by simp [results, Try.results18, go_sem, c0, c1]) rfl ⟨_, q, rfl, HCh.out.weaken (fun _ h => h.elim), hb⟩

end Go.Proofs.Ythhophbddnfnnaa.fnJoinAllWithCommaKeepsPresentInOrder
