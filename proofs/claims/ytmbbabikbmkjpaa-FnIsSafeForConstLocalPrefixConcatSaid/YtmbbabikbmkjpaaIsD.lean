import Derived.Test.YtmbbabikbmkjpaaKit
import Derived.Test.YtmbbabikbmkjpaaIsC
namespace Go.Proofs.Ytmbbabikbmkjpaa.fnIsSafeForConstLocalPrefixConcat
open Go.ChangeShapes Go.WideShapes Go.ChangeAt Go.RowKit
set_option linter.unusedVariables false
set_option maxRecDepth 100000
set_option maxHeartbeats 2000000

def SomeB (w : World) (e : Ending) (w' : World) : Prop := ∃ b, e = .returned (.bool b) ∧ w = w'
theorem zb18 (a0 a1 a2 : Option Addr) (n0 n1 n2 c0 c1 c2 : Nat) (w : World) (h0 : n0 ≤ 9223372036854775807) (h1 : n1 ≤ 9223372036854775807) (h2 : n2 ≤ 9223372036854775807) :
    Calls Try.prog 18 #[.slice a0 n0 c0, .slice a1 n1 c1, .slice a2 n2 c2] w (SomeB w) := by
  go_enter Try.func18, Try.ntmps18
  go_wp2
  all_goals
    go_ret
    exact ⟨_, rfl, rfl⟩

/-- A slice of codes. -/
def Cds (w : World) (a : Option Addr) (n : Nat) (z : Nat → Int) : Prop := ∀ i, i < n → ∃ x, a = some x ∧ w.cell? (x.add i) = some (.int .u8 (z i)) ∧ codes (z i)
theorem Cds.later {w w' : World} {a : Option Addr} {n : Nat} {z : Nat → Int} (h : Cds w a n z) (hb : Below w.heap.size w w') : Cds w' a n z := fun i hi => by
  obtain ⟨x, e, h1, h2⟩ := h i hi
  exact ⟨x, e, Proofs.Ytmbbabikbmkjpaa.later h1 hb, h2⟩

def Cnt (n : Nat) (w : World) (e : Ending) (w' : World) : Prop := ∃ c : Nat, c ≤ n ∧ e = .returned (.int .i64 (c : Int)) ∧ w = w'
theorem count19 (a : Option Addr) (n c : Nat) (z : Nat → Int) (w : World) (hn : n ≤ 65536) (h : Cds w a n z) : Calls Try.prog 19 #[.slice a n c] w (Cnt n w) := by
  have H := Lib.hid h
  clear h
  go_enter Try.func19, Try.ntmps19
  go_wp2_with fail
  go_loop [3, 4] (fun v3 v4 => ∃ k q : Nat, k ≤ n ∧ q ≤ k ∧ v4 = .int .i64 (k : Int) ∧ v3 = .int .i64 (q : Int)) (fun _ v4 => n - (intOf v4).toNat)
  case atStart => exact ⟨0, 0, Nat.zero_le _, Nat.le_refl _, rfl, rfl⟩
  case round =>
    obtain ⟨k, q, hk, hq, rfl, rfl⟩ := hrel
    by_cases hlt : k < n
    · obtain ⟨x, rfl, hc, hb0, hb1⟩ := H.out k hlt
      obtain ⟨v, hv⟩ : ∃ v, z k = v := ⟨_, rfl⟩
      rw [hv] at hc hb0 hb1
      clear hv
      by_cases h12 : v % 13 = 12
      · go_wp2_with fail
        go_round
        case rel => exact ⟨k + 1, q + 1, by omega, by omega, by go_num, by go_num⟩
        case measure => simp [intOf]; omega
      · have hb : (v % 13 == 12) = false := by simpa using h12
        clear h12
        go_wp2_with fail
        go_round
        case rel => exact ⟨k + 1, q, by omega, by omega, by go_num, rfl⟩
        case measure => simp [intOf]; omega
    · obtain rfl : k = n := by omega
      go_wp2_with fail
      go_ret
      exact ⟨q, hq, rfl, rfl⟩

/-- An array of which the program says b. -/
def Arr (b : Bool) (w : World) (e : Ending) (w' : World) : Prop := ∃ u : Nat, e = .returned (.agg #[.iface 61 (.pointer (some ⟨u, 0, none⟩)), .int .i32 0]) ∧ Safe (fun _ => False) w' 61 u b ∧ Below w.heap.size w w'

theorem wrap22 (u : Nat) (b : Bool) (w : World) (h : Safe (fun _ => False) w 61 u b) : Calls Try.prog 22 #[.agg #[.iface 61 (.pointer (some ⟨u, 0, none⟩)), .int .i32 0]] w (Ans b w) := by
  have H := Lib.hid h
  clear h
  go_enter Try.func22, Try.ntmps22
  go_wp2_with fail
  refine (H.out _ (FrX.below (by go_grown))).mono ?_
  rintro e w1 ⟨rfl, hb1⟩
  go_wp2_with fail
  go_ret
  exact ⟨rfl, Below.trans (by go_grown) (hb1.mono (by go_size))⟩

theorem info57 : (Try.prog.info? 57).map (fun i => (i.zero, i.size, i.bytes)) = some (some (.agg #[.nilIface, .int .i32 0]), 2, 24) := by kernel_rfl

theorem arr20 (a : Option Addr) (n c : Nat) (z : Nat → Int) (w : World) (hn : n ≤ 131072) (h : Cds w a n z) : Calls Try.prog 20 #[.slice a n c] w (Arr ((List.range n).all fun i => flatB (z i)) w) := by
  obtain ⟨i0, hi, hz0, hz1, hz2⟩ := info_parts info57
  have H := Lib.hid h
  clear h
  go_enter Try.func20, Try.ntmps20
  go_wp2_with (at_make; refine wpList_make_full _ rfl _ _ 62 rfl (w.heap.size + 1) 57 i0 _ 2 Try.underlying62 hi hz0 hz1 .i64 .i64 _ _ n rfl rfl rfl rfl (by rw [hz2]; omega) (by unfold maxLen; omega) (by go_size) ?_)
  intro w1 hown hgrow
  obtain ⟨cs0, hr0, hs0, _⟩ := RowAt.of_owns hown
  have hR : (w.alloc (.cells #[.nilIface, .int .i32 0] 57)).heap.size = w.heap.size + 1 := by simp
  have HB : Hid (Below w.heap.size w w1) := Below.grown (Below.alloc (Below.refl _ _) (Nat.le_refl _) _) hgrow (by go_size) (fun k hk => by cases hk)
  have hr : RowAt w1 w.heap.size #[.nilIface, .int .i32 0] 57 := (hgrow.block _ (by simp) (by simp)).trans (RowAt.new w _ _)
  have HR := Lib.hid hr
  have HBD : Hid (Bld (fun j => j = w.heap.size + 1 ∨ j = w.heap.size) w1 (w.heap.size + 1) n 0 (fun i => flatB (z i))) := ⟨cs0, fun _ => 0, fun _ => 0, hR ▸ hr0, hs0, fun i hi => by omega, fun i hi => by omega⟩
  clear hown hgrow hi hz0 hz1 hz2 i0 hr hr0 hs0 hR
  go_wp2_with fail
  go_loopw [4] (fun v4 wr => ∃ k : Nat, k ≤ n ∧ v4 = .int .i64 k ∧ Bld (fun j => j = w.heap.size + 1 ∨ j = w.heap.size) wr (w.heap.size + 1) n k (fun i => flatB (z i)) ∧ RowAt wr w.heap.size #[.nilIface, .int .i32 0] 57 ∧ Below w.heap.size w wr) (fun v4 _ => n - (intOf v4).toNat)
  case atStart => exact ⟨0, Nat.zero_le _, rfl, HBD.out, HR.out, HB.out⟩
  case round =>
    clear HBD HR HB
    obtain ⟨k, hk, rfl, hbd, hrr, hb⟩ := hrel
    have HBD := Lib.hid hbd
    have HR := Lib.hid hrr
    have HB := Lib.hid hb
    by_cases hlt : k < n
    · obtain ⟨x, rfl, hc, hcd⟩ := H.out k hlt
      have hc' := later hc hb
      have HC := Lib.hid hcd
      obtain ⟨hc0, hc1⟩ := hcd
      obtain ⟨v, hv⟩ : ∃ v, z k = v := ⟨_, rfl⟩
      rw [hv] at hc' hc0 hc1
      have HV := Lib.hid hv
      have z1 := hbd.lt
      clear hbd hrr hb hc hv
      go_wp2_with fail
      refine (flat27 v _ ⟨hc0, hc1⟩).mono ?_
      rintro e w2 ⟨U, u, rfl, hs, hb2⟩
      have hS := hs (fun j => j = w.heap.size + 1 ∨ j = w.heap.size) (fun j hj => by rcases hj with rfl | rfl <;> omega)
      obtain ⟨⟨o0, ho0⟩, ⟨o1, ho1⟩, ho2⟩ := (HBD.out.below hb2).old hlt
      have HST := Lib.hid (HBD.out.step (.inl rfl) hlt hb2 (by rw [HV.out]; exact hS))
      have HR2 := Lib.hid (HR.out.below hb2 HR.out.lt)
      have HB2 := Lib.hid (HB.out.trans (hb2.mono HB.out.size))
      clear hs hb2 hS
      go_wp2_with fail
      go_roundw
      case rel => exact ⟨k + 1, by omega, by go_num, HST.out, (HR2.out.set_other (by omega) _ _).set_other (by omega) _ _, (HB2.out.setCell (by show w.heap.size ≤ w.heap.size + 1; omega) _).setCell (by show w.heap.size ≤ w.heap.size + 1; omega) _⟩
      case measure => simp [intOf]; omega
    · obtain rfl : k = n := by omega
      have c0 := hrr.cellv (j := 0) (v := .nilIface) rfl
      have c1 := hrr.cellv (j := 1) (v := .int .i32 0) rfl
      have f0 := hrr.frozen
      have z0 := hrr.lt
      have hsz := hb.size
      have z1 := hbd.lt
      clear hbd hrr hb
      go_wp2_with fail
      have q0 : (wr.setCell ⟨w.heap.size, 0, none⟩ (.iface 61 (.pointer (some ⟨wr.heap.size, 0, none⟩)))).cell? ⟨w.heap.size, 0, none⟩ = some (.iface 61 (.pointer (some ⟨wr.heap.size, 0, none⟩))) := (HR.out.set 0 _).cellv rfl
      have q1 : ((wr.setCell ⟨w.heap.size, 0, none⟩ (.iface 61 (.pointer (some ⟨wr.heap.size, 0, none⟩)))).setCell ⟨w.heap.size, 1, none⟩ (.int .i32 0)).cell? ⟨w.heap.size, 1, none⟩ = some (.int .i32 0) := ((HR.out.set 0 _).set 1 _).cellv rfl
      refine bodyPost_ret (v := .agg #[.iface 61 (.pointer (some ⟨wr.heap.size, 0, none⟩)), .int .i32 0]) (by simp [results, Try.results20, go_sem, q0, q1, z0]) rfl
        ⟨_, rfl, Bld.done (rest := [.int .i32 0, .int .i32 0, .bool false, .bool false]) (Bld.below ((HBD.out.setX (.inr rfl) (by omega)).setX (.inr rfl) (by omega)) (by go_grown)) (.inl rfl) hn (RowAt.newAt (by simp)), ((HB.out.setCell (Nat.le_refl _) _).setCell (Nat.le_refl _) _).alloc (by simpa using hsz) _⟩

end Go.Proofs.Ytmbbabikbmkjpaa.fnIsSafeForConstLocalPrefixConcat
