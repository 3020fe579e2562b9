import Derived.Test.YtjngpnijogfmdabKit
import Derived.Test.YtjngpnijogfmdabDhC
import Derived.Test.YtjngpnijogfmdabRec
namespace Go.Proofs.Ytjngpnijogfmdab.fnDuplicateCaseHashAgreesWithEquals
open Go.ChangeShapes Go.WideShapes Go.ChangeAt Go.RowKit
set_option linter.unusedVariables false
set_option maxRecDepth 100000
set_option maxHeartbeats 2000000

theorem info_clone5 : (Try.prog.info? 38).map (fun i => (i.zero, i.size, i.bytes)) = some (some (.int .u16 0), 1, 2) := by kernel_rfl

theorem clone5_nil (w : World) : Calls Try.prog 5 #[.slice none 0 0] w fun e w' => e = .returned (.slice none 0 0) ∧ w = w' := by
  have hnil := fun W => Lib.run_eql_slice_nil (P := Try.prog) W 23 38 none 0 0 0 0 Try.underlying23
  go_enter Try.func5, Try.ntmps5
  go_wp2
  go_ret
  exact ⟨rfl, rfl⟩

theorem clone5 (x : Addr) (len cap : Nat) (zs : List Int) (w : World) (hn : len ≤ 1048576) (hcell : ∀ i, i < len → w.cell? (x.add i) = some (.int .u16 (zs.getD i 0))) :
    Calls Try.prog 5 #[.slice (some x) len cap] w fun e w' => e = .returned (.slice (some ⟨w.heap.size, 0, none⟩) len len) ∧ RowUpTo w' w.heap.size 38 len len (fun i => .int .u16 (zs.getD i 0)) ∧ Below w.heap.size w w' := by
  obtain ⟨i0, hi, hz0, hz1, hz2⟩ := info_parts info_clone5
  have hnil := fun W => Lib.run_eql_slice_nil (P := Try.prog) W 23 38 (some x) len cap 0 0 Try.underlying23
  have HC := Lib.hid hcell
  clear hcell
  go_enter Try.func5, Try.ntmps5
  go_wp2_with (at_make; refine wpList_make_full _ rfl _ _ 23 rfl w.heap.size 38 i0 _ 1 Try.underlying23 hi hz0 hz1 .i64 .i64 _ _ len rfl rfl rfl rfl (by rw [hz2]; omega) (by unfold maxLen; omega) (Nat.le_refl _) ?_; intro w1 hown hgrow)
  clear hi hz0 hz1 hz2 i0 hnil
  obtain ⟨cs0, hr0, hs0, _⟩ := RowAt.of_owns hown
  have hb1 : Below w.heap.size w w1 := (Below.refl _ _).grown hgrow (Nat.le_refl _) (fun k hk => by cases hk)
  have hB1 : RowUpTo w1 w.heap.size 38 len 0 (fun i => .int .u16 (zs.getD i 0)) := RowUpTo.start hr0 (by omega) _
  clear hown hgrow hr0 hs0
  go_loopw [4] (fun v4 wr => ∃ k : Nat, k ≤ len ∧ v4 = .int .i64 k ∧ RowUpTo wr w.heap.size 38 len k (fun i => .int .u16 (zs.getD i 0)) ∧ Below w.heap.size w wr) (fun v4 _ => len - (intOf v4).toNat)
  case atStart => exact ⟨0, Nat.zero_le _, rfl, hB1, hb1⟩
  case round =>
    obtain ⟨k, hk, rfl, hB, hb⟩ := hrel
    have HB := Lib.hid hB
    clear hB hB1 hb1
    by_cases hlt : k < len
    · obtain ⟨z, hz⟩ : ∃ z, zs.getD k 0 = z := ⟨_, rfl⟩
      have hc := later (HC.out k hlt) hb
      rw [hz] at hc
      obtain ⟨x0, q0⟩ := HB.out.old hlt
      have q2 := HB.out.frozen k
      have HS : Hid (RowUpTo (wr.setCell ⟨w.heap.size, k, none⟩ (.int .u16 z)) w.heap.size 38 len (k + 1) (fun i => .int .u16 (zs.getD i 0))) := by
        have := HB.out.step hlt
        rw [hz] at this
        exact this
      clear hz
      go_wp2
      go_roundw
      case rel => exact ⟨k + 1, by omega, by go_num, HS.out, by go_grown⟩
      case measure => simp [intOf]; omega
    · obtain rfl : k = len := by omega
      go_wp2
      go_ret
      exact ⟨rfl, HB.out, hb⟩

theorem newAt {W : World} {b : Nat} {cs : Array Value} {t : TypeId} (hb : b = W.heap.size) : RowAt (W.alloc (.cells cs t)) b cs t := by
  subst hb
  exact RowAt.new _ _ _
theorem cl5 (a : Option Addr) (n c : Nat) (zs : List Int) (w : World) (h : IsRow .u16 w a n c zs) (hn : n ≤ 1048576) :
    Calls Try.prog 5 #[.slice a n c] w fun e w' => ∃ a', e = .returned (.slice a' n n) ∧ Us w' a' n (fun i => zs.getD i 0) ∧ Below w.heap.size w w' := by
  rcases h with ⟨rfl, rfl, rfl, rfl⟩ | ⟨x, rfl, hl, hm, hz, hcell, hwz⟩
  · refine (clone5_nil w).mono ?_
    rintro e w' ⟨rfl, rfl⟩
    exact ⟨none, rfl, fun i hi => by omega, Below.refl _ _⟩
  · refine (clone5 x n c zs w hn (fun i hi => hcell i (by omega))).mono ?_
    rintro e w' ⟨rfl, hr, hb⟩
    refine ⟨_, rfl, fun i hi => ⟨_, rfl, ?_, ?_⟩, hb⟩
    · exact hr.cellA hi
    · have := bounds_u16 (hwz (zs.getD i 0) (by rw [List.getD_eq_getElem?_getD, List.getElem?_eq_getElem (by omega)]; simp))
      omega

/-- The hash of a leaf of kind k. -/
def hk (k : Int) (f : Nat) (b : Bool) (z : Nat → Int) (n : Nat) (r : Int) : Int :=
  if k = 0 then 0 else if k = 1 then 1 else if k = 2 then (if b then hcV 2 1 else hcV 2 0) else if k = 3 then hcV (hcV 3 ((f : Int) % 4294967296)) ((f : Int) / 4294967296) else if k = 4 then hs z n else if k = 5 then hcV 6 r else 0

/-- What a leaf is. -/
def Leaf (w : World) (h : Int) (ok : Bool) (e : Ending) (w' : World) : Prop := ∃ (U : Nat) (v : Value), e = .returned (.agg #[.iface U v, .int .i32 0]) ∧ v.oneCell' = true ∧ Hs w' (.iface U v) h ok ∧ Below w.heap.size w w'
theorem leaf0 (k : Int) (f : Nat) (b : Bool) (a : Option Addr) (n : Nat) (z : Nat → Int) (r : Int) (w : World) (hf : f < 18446744073709551616) (hn : n ≤ 1048576) (hu : Us w a n z) (hr : 0 ≤ r) (hr1 : r ≤ 4294967295) (h0 : 0 ≤ k) (h1 : k ≤ 255) (hk7 : k % 7 = 0) :
    Calls Try.prog 6 #[.int .u8 k, .float .f64 f, .bool b, .slice a n n, .int .u32 r] w (Leaf w 0 true) := by
  have HU := Lib.hid hu
  clear hu
  have hst := fun (A : Addr) (W : World) (m : Mode) => run_store Try.prog W A (.float .f64 f) m rfl
  go_enter Try.func6, Try.ntmps6
  go_wp2
  go_returns
  exact ⟨_, _, rfl, rfl, fun w' l hb => hash_null _ l w', by go_grown⟩
theorem leaf1 (k : Int) (f : Nat) (b : Bool) (a : Option Addr) (n : Nat) (z : Nat → Int) (r : Int) (w : World) (hf : f < 18446744073709551616) (hn : n ≤ 1048576) (hu : Us w a n z) (hr : 0 ≤ r) (hr1 : r ≤ 4294967295) (h0 : 0 ≤ k) (h1 : k ≤ 255) (hk7 : k % 7 = 1) :
    Calls Try.prog 6 #[.int .u8 k, .float .f64 f, .bool b, .slice a n n, .int .u32 r] w (Leaf w 1 true) := by
  have HU := Lib.hid hu
  clear hu
  have hst := fun (A : Addr) (W : World) (m : Mode) => run_store Try.prog W A (.float .f64 f) m rfl
  go_enter Try.func6, Try.ntmps6
  go_wp2
  go_returns
  exact ⟨_, _, rfl, rfl, fun w' l hb => hash_undef _ l w', by go_grown⟩
theorem leaf2 (k : Int) (f : Nat) (b : Bool) (a : Option Addr) (n : Nat) (z : Nat → Int) (r : Int) (w : World) (hf : f < 18446744073709551616) (hn : n ≤ 1048576) (hu : Us w a n z) (hr : 0 ≤ r) (hr1 : r ≤ 4294967295) (h0 : 0 ≤ k) (h1 : k ≤ 255) (hk7 : k % 7 = 2) :
    Calls Try.prog 6 #[.int .u8 k, .float .f64 f, .bool b, .slice a n n, .int .u32 r] w (Leaf w (if b then hcV 2 1 else hcV 2 0) true) := by
  have HU := Lib.hid hu
  clear hu
  have hst := fun (A : Addr) (W : World) (m : Mode) => run_store Try.prog W A (.float .f64 f) m rfl
  cases b
  all_goals
    go_enter Try.func6, Try.ntmps6
    go_wp2
    go_returns
    exact ⟨_, _, rfl, rfl, fun w' l hb => hash_bool _ _ l w' (later ((newAt (by simp)).cellv rfl) hb), by go_grown⟩
theorem leaf3 (k : Int) (f : Nat) (b : Bool) (a : Option Addr) (n : Nat) (z : Nat → Int) (r : Int) (w : World) (hf : f < 18446744073709551616) (hn : n ≤ 1048576) (hu : Us w a n z) (hr : 0 ≤ r) (hr1 : r ≤ 4294967295) (h0 : 0 ≤ k) (h1 : k ≤ 255) (hk7 : k % 7 = 3) :
    Calls Try.prog 6 #[.int .u8 k, .float .f64 f, .bool b, .slice a n n, .int .u32 r] w (Leaf w (hcV (hcV 3 ((f : Int) % 4294967296)) ((f : Int) / 4294967296)) true) := by
  have HU := Lib.hid hu
  clear hu
  have hst := fun (A : Addr) (W : World) (m : Mode) => run_store Try.prog W A (.float .f64 f) m rfl
  go_enter Try.func6, Try.ntmps6
  go_wp2
  go_returns
  exact ⟨_, _, rfl, rfl, fun w' l hb => hash_num _ f l w' hf (later ((newAt (by simp)).cellv rfl) hb), by go_grown⟩
theorem leaf4 (k : Int) (f : Nat) (b : Bool) (a : Option Addr) (n : Nat) (z : Nat → Int) (r : Int) (w : World) (hf : f < 18446744073709551616) (hn : n ≤ 1048576) (hu : Us w a n z) (hr : 0 ≤ r) (hr1 : r ≤ 4294967295) (h0 : 0 ≤ k) (h1 : k ≤ 255) (hk7 : k % 7 = 4) :
    Calls Try.prog 6 #[.int .u8 k, .float .f64 f, .bool b, .slice a n n, .int .u32 r] w (Leaf w (hs z n) true) := by
  have HU := Lib.hid hu
  clear hu
  have hst := fun (A : Addr) (W : World) (m : Mode) => run_store Try.prog W A (.float .f64 f) m rfl
  go_enter Try.func6, Try.ntmps6
  go_wp2
  go_returns
  exact ⟨_, _, rfl, rfl, fun w' l hb => hash_str _ a n n z l w' hn (later ((newAt (by simp)).cellv rfl) hb) ((HU.out.below (by go_grown)).below hb), by go_grown⟩
theorem leaf5 (k : Int) (f : Nat) (b : Bool) (a : Option Addr) (n : Nat) (z : Nat → Int) (r : Int) (w : World) (hf : f < 18446744073709551616) (hn : n ≤ 1048576) (hu : Us w a n z) (hr : 0 ≤ r) (hr1 : r ≤ 4294967295) (h0 : 0 ≤ k) (h1 : k ≤ 255) (hk7 : k % 7 = 5) :
    Calls Try.prog 6 #[.int .u8 k, .float .f64 f, .bool b, .slice a n n, .int .u32 r] w (Leaf w (hcV 6 r) true) := by
  have HU := Lib.hid hu
  clear hu
  have hst := fun (A : Addr) (W : World) (m : Mode) => run_store Try.prog W A (.float .f64 f) m rfl
  go_enter Try.func6, Try.ntmps6
  go_wp2
  go_returns
  exact ⟨_, _, rfl, rfl, fun w' l hb => hash_ident _ r l w' hr hr1 (later ((newAt (by simp)).cellv rfl) hb), by go_grown⟩
theorem leaf6 (k : Int) (f : Nat) (b : Bool) (a : Option Addr) (n : Nat) (z : Nat → Int) (r : Int) (w : World) (hf : f < 18446744073709551616) (hn : n ≤ 1048576) (hu : Us w a n z) (hr : 0 ≤ r) (hr1 : r ≤ 4294967295) (h0 : 0 ≤ k) (h1 : k ≤ 255) (hk7 : k % 7 = 6) :
    Calls Try.prog 6 #[.int .u8 k, .float .f64 f, .bool b, .slice a n n, .int .u32 r] w (Leaf w 0 false) := by
  have HU := Lib.hid hu
  clear hu
  have hst := fun (A : Addr) (W : World) (m : Mode) => run_store Try.prog W A (.float .f64 f) m rfl
  go_enter Try.func6, Try.ntmps6
  go_wp2
  go_returns
  exact ⟨_, _, rfl, rfl, fun w' l hb => hash_arr _ l w', by go_grown⟩

end Go.Proofs.Ytjngpnijogfmdab.fnDuplicateCaseHashAgreesWithEquals
