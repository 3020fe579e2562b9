import Derived.Test.YtjngpnijogfmdabKit
import Derived.Test.YtjngpnijogfmdabDhD
namespace Go.Proofs.Ytjngpnijogfmdab.fnDuplicateCaseHashAgreesWithEquals
open Go.ChangeShapes Go.WideShapes Go.ChangeAt Go.RowKit
set_option linter.unusedVariables false
set_option maxRecDepth 100000
set_option maxHeartbeats 2000000

theorem leafAll (k : Int) (f : Nat) (b : Bool) (a : Option Addr) (n : Nat) (z : Nat → Int) (r : Int) (w : World) (hf : f < 18446744073709551616) (hn : n ≤ 1048576) (hu : Us w a n z) (hr : 0 ≤ r) (hr1 : r ≤ 4294967295) (h0 : 0 ≤ k) (h1 : k ≤ 255) :
    Calls Try.prog 6 #[.int .u8 k, .float .f64 f, .bool b, .slice a n n, .int .u32 r] w (Leaf w (hk (k % 7) f b z n r) (k % 7 != 6)) := by
  have h : k % 7 = 0 ∨ k % 7 = 1 ∨ k % 7 = 2 ∨ k % 7 = 3 ∨ k % 7 = 4 ∨ k % 7 = 5 ∨ k % 7 = 6 := by omega
  rcases h with h | h | h | h | h | h | h
  · rw [h, show hk 0 f b z n r = 0 from by simp [hk], show ((0 : Int) != 6) = true from by decide]; exact leaf0 k f b a n z r w hf hn hu hr hr1 h0 h1 h
  · rw [h, show hk 1 f b z n r = 1 from by simp [hk], show ((1 : Int) != 6) = true from by decide]; exact leaf1 k f b a n z r w hf hn hu hr hr1 h0 h1 h
  · rw [h, show hk 2 f b z n r = (if b then hcV 2 1 else hcV 2 0) from by simp [hk], show ((2 : Int) != 6) = true from by decide]; exact leaf2 k f b a n z r w hf hn hu hr hr1 h0 h1 h
  · rw [h, show hk 3 f b z n r = (hcV (hcV 3 ((f : Int) % 4294967296)) ((f : Int) / 4294967296)) from by simp [hk], show ((3 : Int) != 6) = true from by decide]; exact leaf3 k f b a n z r w hf hn hu hr hr1 h0 h1 h
  · rw [h, show hk 4 f b z n r = (hs z n) from by simp [hk], show ((4 : Int) != 6) = true from by decide]; exact leaf4 k f b a n z r w hf hn hu hr hr1 h0 h1 h
  · rw [h, show hk 5 f b z n r = (hcV 6 r) from by simp [hk], show ((5 : Int) != 6) = true from by decide]; exact leaf5 k f b a n z r w hf hn hu hr hr1 h0 h1 h
  · rw [h, show hk 6 f b z n r = 0 from by simp [hk], show ((6 : Int) != 6) = false from by decide]; exact leaf6 k f b a n z r w hf hn hu hr hr1 h0 h1 h

theorem hash7 (U : Nat) (v : Value) (h : Int) (ok : Bool) (w : World) (hv : v.oneCell' = true) (H : Hs w (.iface U v) h ok) : Calls Try.prog 7 #[.agg #[.iface U v, .int .i32 0]] w fun e w' => e = .returned (.tuple #[.int .u32 h, .bool ok]) ∧ Below w.heap.size w w' := by
  have HH := Lib.hid H
  have hst := fun (A : Addr) (W : World) (m : Mode) => run_store Try.prog W A (.iface U v) m rfl
  clear H
  go_enter Try.func7, Try.ntmps7
  go_wp2_with fail
  refine (HH.out _ 0 (by go_grown)).mono ?_
  rintro e w1 ⟨rfl, hb⟩
  go_wp2_with fail
  go_ret2
  exact ⟨rfl, Below.trans (by go_grown) (hb.mono (by go_size))⟩

theorem wrap8 (U : Nat) (v : Value) (h : Int) (ok wr : Bool) (w : World) (hv : v.oneCell' = true) (H : Hs w (.iface U v) h ok) : Calls Try.prog 8 #[.agg #[.iface U v, .int .i32 0], .bool wr] w (Leaf w h ok) := by
  have HH := Lib.hid H
  have hst := fun (A : Addr) (W : World) (m : Mode) => run_store Try.prog W A (.iface U v) m rfl
  clear H
  cases wr
  · go_enter Try.func8, Try.ntmps8
    go_wp2
    go_returns
    exact ⟨_, _, rfl, hv, HH.out.below (by go_grown), by go_grown⟩
  · go_enter Try.func8, Try.ntmps8
    go_wp2
    go_returns
    exact ⟨_, _, rfl, rfl, fun w' l hb => hash_enum _ (.iface U v) l 0 h ok w' (later ((newAt (by simp)).cellv rfl) hb) (later ((newAt (by simp)).cellv rfl) hb) ((HH.out.below (by go_grown)).below hb), by go_grown⟩

def Eq19 (n m : Nat) (z y : Nat → Int) (w : World) (e : Ending) (w' : World) : Prop := ∃ q, e = .returned (.bool q) ∧ (q = true → n = m ∧ ∀ i, i < n → z i = y i) ∧ Below w.heap.size w w'
theorem eq19 (a a' : Option Addr) (n m : Nat) (z y : Nat → Int) (w : World) (hn : n ≤ 1048576) (hm : m ≤ 1048576) (hz : Us w a n z) (hy : Us w a' m y) :
    Calls Try.prog 19 #[.slice a n n, .slice a' m m] w (Eq19 n m z y w) := by
  have HZ := Lib.hid hz
  have HY := Lib.hid hy
  clear hz hy
  by_cases hnm : n = m
  · subst hnm
    go_enter Try.func19, Try.ntmps19
    go_wp2
    go_loopw [5] (fun v5 wr => ∃ k : Nat, k ≤ n ∧ v5 = .int .i64 k ∧ (∀ i, i < k → z i = y i) ∧ Below w.heap.size w wr) (fun v5 _ => n - (intOf v5).toNat)
    case atStart => exact ⟨0, Nat.zero_le _, rfl, fun i hi => by omega, Below.refl _ _⟩
    case round =>
      obtain ⟨k, hk, rfl, hs, hb⟩ := hrel
      by_cases hlt : k < n
      · obtain ⟨x, rfl, hcx, z0, z1⟩ := HZ.out k hlt
        obtain ⟨x', rfl, hcy, y0, y1⟩ := HY.out k hlt
        obtain ⟨u, hu⟩ : ∃ u, z k = u := ⟨_, rfl⟩
        obtain ⟨v, hv⟩ : ∃ v, y k = v := ⟨_, rfl⟩
        rw [hu] at hcx z0 z1
        rw [hv] at hcy y0 y1
        have cx := later hcx hb
        have cy := later hcy hb
        have HS := Lib.hid hs
        have HU := Lib.hid hu
        have HV := Lib.hid hv
        clear hs hu hv hcx hcy
        by_cases e : u = v
        · subst e
          go_wp2_with fail
          go_quiet (fail)
          go_wp2_with fail
          go_roundw
          case rel =>
            refine ⟨k + 1, by omega, by go_num, fun i hi => ?_, below_drewN hb _⟩
            by_cases hik : i = k
            · subst hik; rw [HU.out, HV.out]
            · exact HS.out i (by omega)
          case measure => simp [intOf]; omega
        · have hne : (u != v) = true := by simpa using e
          go_wp2_with fail
          go_quiet (fail)
          go_wp2_with fail
          go_ret
          exact ⟨false, rfl, (fun e => by cases e), below_drewN hb _⟩
      · obtain rfl : k = n := by omega
        go_wp2
        go_ret
        exact ⟨true, rfl, fun _ => ⟨rfl, hs⟩, hb⟩
  · go_enter Try.func19, Try.ntmps19
    go_wp2
    go_ret
    exact ⟨false, rfl, (fun e => by cases e), Below.refl _ _⟩

/-- When the table calls two leaves equal. -/
structure EqK (ka kb : Int) (na nb : Nat) (ba bb : Bool) (n m : Nat) (z y : Nat → Int) (ra rb : Int) : Prop where
  kind : ka % 7 = kb % 7
  not6 : ka % 7 ≠ 6
  bool : ka % 7 = 2 → ba = bb
  num : ka % 7 = 3 → Ieee.double.order na nb = some .eq
  str : ka % 7 = 4 → n = m ∧ ∀ i, i < n → z i = y i
  ident : ka % 7 = 5 → ra = rb
def Eqs (ka kb : Int) (na nb : Nat) (ba bb : Bool) (n m : Nat) (z y : Nat → Int) (ra rb : Int) (w : World) (e : Ending) (w' : World) : Prop := ∃ q, e = .returned (.bool q) ∧ (q = true → EqK ka kb na nb ba bb n m z y ra rb) ∧ Below w.heap.size w w'

theorem leafEq (ka kb : Int) (na nb : Nat) (ba bb : Bool) (a a' : Option Addr) (n m : Nat) (z y : Nat → Int) (ra rb : Int) (w : World) (hn : n ≤ 1048576) (hm : m ≤ 1048576) (hz : Us w a n z) (hy : Us w a' m y) (h0 : 0 ≤ ka) (h1 : ka ≤ 255) (h2 : 0 ≤ kb) (h3 : kb ≤ 255) :
    Calls Try.prog 9 #[.int .u8 ka, .int .u8 kb, .float .f64 na, .float .f64 nb, .bool ba, .bool bb, .slice a n n, .slice a' m m, .int .u32 ra, .int .u32 rb] w (Eqs ka kb na nb ba bb n m z y ra rb w) := by
  have HZ := Lib.hid hz
  have HY := Lib.hid hy
  clear hz hy
  by_cases hk : ka % 7 = kb % 7
  · have h : kb % 7 = 0 ∨ kb % 7 = 1 ∨ kb % 7 = 2 ∨ kb % 7 = 3 ∨ kb % 7 = 4 ∨ kb % 7 = 5 ∨ kb % 7 = 6 := by omega
    rcases h with h | h | h | h | h | h | h
    all_goals
      have ha := hk.trans h
      clear hk
      go_enter Try.func9, Try.ntmps9
    · go_wp2
      go_ret
      exact ⟨true, rfl, fun _ => ⟨by omega, by omega, (fun e => by omega), (fun e => by omega), (fun e => by omega), (fun e => by omega)⟩, Below.refl _ _⟩
    · go_wp2
      go_ret
      exact ⟨true, rfl, fun _ => ⟨by omega, by omega, (fun e => by omega), (fun e => by omega), (fun e => by omega), (fun e => by omega)⟩, Below.refl _ _⟩
    · go_wp2
      go_ret
      exact ⟨_, rfl, fun hq => ⟨by omega, by omega, (fun e => by simpa using hq), (fun e => by omega), (fun e => by omega), (fun e => by omega)⟩, Below.refl _ _⟩
    · go_wp2
      go_ret
      exact ⟨_, rfl, fun hq => ⟨by omega, by omega, (fun e => by omega), (fun e => eq_of_beq hq), (fun e => by omega), (fun e => by omega)⟩, Below.refl _ _⟩
    · go_wp2_with fail
      refine (eq19 a a' n m z y _ hn hm HZ.out HY.out).mono ?_
      rintro e w1 ⟨q, rfl, hq, hb⟩
      have HQ := Lib.hid hq
      clear hq
      go_wp2_with fail
      go_ret
      exact ⟨q, rfl, fun hq => ⟨by omega, by omega, (fun e => by omega), (fun e => by omega), (fun e => HQ.out hq), (fun e => by omega)⟩, hb⟩
    · go_wp2
      go_ret
      exact ⟨_, rfl, fun hq => ⟨by omega, by omega, (fun e => by omega), (fun e => by omega), (fun e => by omega), (fun e => by simpa using hq)⟩, Below.refl _ _⟩
    · go_wp2
      go_ret
      exact ⟨false, rfl, (fun e => by cases e), Below.refl _ _⟩
  · go_enter Try.func9, Try.ntmps9
    go_wp2
    go_ret
    exact ⟨false, rfl, (fun e => by cases e), Below.refl _ _⟩

theorem hk_eq {ka kb : Int} {na nb : Nat} {ba bb : Bool} {n m : Nat} {z y : Nat → Int} {ra rb : Int} (E : EqK ka kb na nb ba bb n m z y ra rb) (hx : na < 18446744073709551616) (hy : nb < 18446744073709551616)
    (hz : ¬ (ka % 7 = 3 ∧ Ieee.double.order na 0 = some .eq ∧ Ieee.double.order nb 0 = some .eq)) : hk (ka % 7) na ba z n ra = hk (kb % 7) nb bb y m rb := by
  rw [← E.kind]
  unfold hk
  split
  · rfl
  split
  · rfl
  split
  · rename_i h
    rw [E.bool h]
  split
  · rename_i h
    rcases feq hx hy (E.num h) with e | ⟨e1, e2⟩
    · rw [e]
    · exact (hz ⟨h, e1, e2⟩).elim
  split
  · rename_i h
    obtain ⟨e, e1⟩ := E.str h
    subst e
    exact hs_congr n e1
  split
  · rename_i h
    rw [E.ident h]
  · rfl

end Go.Proofs.Ytjngpnijogfmdab.fnDuplicateCaseHashAgreesWithEquals
