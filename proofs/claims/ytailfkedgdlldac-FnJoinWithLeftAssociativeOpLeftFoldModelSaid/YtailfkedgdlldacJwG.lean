import Derived.Test.YtailfkedgdlldacKit
import Derived.Test.YtailfkedgdlldacJwD
namespace Go.Proofs.Ytailfkedgdlldac
open Go.ChangeShapes Go.WideShapes Go.ChangeAt Go.RowKit
set_option linter.unusedVariables false
set_option maxRecDepth 100000
set_option maxHeartbeats 2000000

theorem info_cloneB : (Try.prog.info? 5).map (fun i => (i.zero, i.size, i.bytes)) = some (some (.int .u8 0), 1, 1) := by kernel_rfl

theorem cloneB_nil (w : World) : Calls Try.prog 11 #[.slice none 0 0] w fun e w' => e = .returned (.slice none 0 0) ∧ w = w' := by
  have hnil := fun W => Lib.run_eql_slice_nil (P := Try.prog) W 32 5 none 0 0 0 0 Try.underlying32
  go_enter Try.func11, Try.ntmps11
  go_wp2
  go_ret
  exact ⟨rfl, rfl⟩

theorem cloneB (x : Addr) (len cap : Nat) (zs : List Int) (w : World) (hn : len ≤ 1048576) (hcell : ∀ i, i < len → w.cell? (x.add i) = some (.int .u8 (zs.getD i 0))) :
    Calls Try.prog 11 #[.slice (some x) len cap] w fun e w' => e = .returned (.slice (some ⟨w.heap.size, 0, none⟩) len len) ∧ RowUpTo w' w.heap.size 5 len len (fun i => .int .u8 (zs.getD i 0)) ∧ Below w.heap.size w w' := by
  obtain ⟨i0, hi, hz0, hz1, hz2⟩ := info_parts info_cloneB
  have hnil := fun W => Lib.run_eql_slice_nil (P := Try.prog) W 32 5 (some x) len cap 0 0 Try.underlying32
  have HC := Lib.hid hcell
  clear hcell
  go_enter Try.func11, Try.ntmps11
  go_wp2_with (at_make; refine wpList_make_full _ rfl _ _ 32 rfl w.heap.size 5 i0 _ 1 Try.underlying32 hi hz0 hz1 .i64 .i64 _ _ len rfl rfl rfl rfl (by rw [hz2]; omega) (by unfold maxLen; omega) (Nat.le_refl _) ?_; intro w1 hown hgrow)
  clear hi hz0 hz1 hz2 i0 hnil
  obtain ⟨cs0, hr0, hs0, _⟩ := RowAt.of_owns hown
  have hb1 : Below w.heap.size w w1 := (Below.refl _ _).grown hgrow (Nat.le_refl _) (fun k hk => by cases hk)
  have hB1 : RowUpTo w1 w.heap.size 5 len 0 (fun i => .int .u8 (zs.getD i 0)) := RowUpTo.start hr0 (by omega) _
  clear hown hgrow hr0 hs0
  go_loopw [4] (fun v4 wr => ∃ k : Nat, k ≤ len ∧ v4 = .int .i64 k ∧ RowUpTo wr w.heap.size 5 len k (fun i => .int .u8 (zs.getD i 0)) ∧ Below w.heap.size w wr) (fun v4 _ => len - (intOf v4).toNat)
  case atStart => exact ⟨0, Nat.zero_le _, rfl, hB1, hb1⟩
  case round =>
    obtain ⟨k, hk, rfl, hB, hb⟩ := hrel
    have HB := Lib.hid hB
    clear hB hB1 hb1
    by_cases hlt : k < len
    · obtain ⟨z, hz⟩ : ∃ z, zs.getD k 0 = z := ⟨_, rfl⟩
      have hc := later (HC.out k hlt) hb
      rw [hz] at hc
      obtain ⟨x0, q0⟩ := HB.out.old hlt
      have q2 := HB.out.frozen k
      have HS : Hid (RowUpTo (wr.setCell ⟨w.heap.size, k, none⟩ (.int .u8 z)) w.heap.size 5 len (k + 1) (fun i => .int .u8 (zs.getD i 0))) := by
        have := HB.out.step hlt
        rw [hz] at this
        exact this
      clear hz
      go_wp2
      go_roundw
      case rel => exact ⟨k + 1, by omega, by go_num, HS.out, by go_grown⟩
      case measure => simp [intOf]; omega
    · obtain rfl : k = len := by omega
      go_wp2
      go_ret
      exact ⟨rfl, HB.out, hb⟩



/-- What a copied slice is good for: empty, or its bytes known. -/
def Shp (w : World) (a : Option Addr) (len : Nat) (z : List Int) : Prop := len = 0 ∨ ∃ x, a = some x ∧ ∀ i, i < len → w.cell? (x.add i) = some (.int .u8 (z.getD i 0))
theorem Shp.below {w w' : World} {a : Option Addr} {len : Nat} {z : List Int} (h : Shp w a len z) (hb : Below w.heap.size w w') : Shp w' a len z := by
  rcases h with h | ⟨x, h1, h2⟩
  · exact .inl h
  · exact .inr ⟨x, h1, fun i hi => later (h2 i hi) hb⟩

theorem add0 (g i : Nat) : (⟨g, 0, none⟩ : Addr).add i = ⟨g, i, none⟩ := by
  unfold Addr.add
  split
  · rename_i h; rw [h]
  · simp

theorem clone_any (a : Option Addr) (len cap : Nat) (z : List Int) (w : World) (hn : len ≤ 1048576) (h : IsRow .u8 w a len cap z) :
    Calls Try.prog 11 #[.slice a len cap] w fun e w' => ∃ a' c', e = .returned (.slice a' len c') ∧ Shp w' a' len z ∧ Below w.heap.size w w' := by
  rcases h with ⟨rfl, rfl, rfl, _⟩ | ⟨x, rfl, h1, h2, h3, h4, h5⟩
  · refine (cloneB_nil w).mono ?_
    rintro e w' ⟨rfl, rfl⟩
    exact ⟨none, 0, rfl, .inl rfl, Below.refl _ _⟩
  · refine (cloneB x len cap z w hn (fun i hi => h4 i (by omega))).mono ?_
    rintro e w' ⟨rfl, hr, hb⟩
    exact ⟨_, _, rfl, .inr ⟨_, rfl, fun i hi => by rw [add0]; exact hr.cell hi⟩, hb⟩

theorem parse_any (a : Option Addr) (len cap : Nat) (z : List Int) (base op other : Int) (w : World) (hl : len ≤ 4096) (hb0 : 0 ≤ base) (hb1 : base ≤ 8192) (hz : ∀ i, i < len → 0 ≤ z.getD i 0 ∧ z.getD i 0 ≤ 255) (h : Shp w a len z) :
    Calls Try.prog 13 #[.slice a len cap, .int .i64 0, .int .i64 base, .int .u8 op, .int .u8 other] w (Parsed len 0 w) := by
  rcases h with rfl | ⟨x, rfl, hc⟩
  · clear hz
    go_enter Try.func13, Try.ntmps13
    go_wp2_with fail
    go_returns
    exact ⟨_, _, _, _, rfl, by go_grown, rfl, fun e => by cases e⟩
  · exact parse x len cap z base op other hl hb0 hb1 hz (len + 1) 0 0 w rfl (by omega) (by omega) hc

/-- Some bool comes back; the world stands. -/
def SomeB (w : World) (e : Ending) (w' : World) : Prop := ∃ b, e = .returned (.bool b) ∧ w = w'

theorem zz10 (op : Int) (a1 : Option Addr) (n1 c1 : Nat) (a2 : Option Addr) (n2 c2 : Nat) (w : World) (h1 : n1 ≤ 9223372036854775807) (h2 : n2 ≤ 9223372036854775807) : Calls Try.prog 10 #[.int .u8 op, .slice a1 n1 c1, .slice a2 n2 c2] w (SomeB w) := by
  by_cases h : n1 ≤ 1048576
  · by_cases h' : n2 ≤ 1048576
    · by_cases hs : n1 + n2 ≤ 1048576
      · go_enter Try.func10, Try.ntmps10
        go_wp2
        go_ret
        exact ⟨_, rfl, rfl⟩
      · go_enter Try.func10, Try.ntmps10
        go_wp2
        all_goals
          go_ret
          exact ⟨_, rfl, rfl⟩
    · have hn : 1048576 < n2 := by omega
      go_enter Try.func10, Try.ntmps10
      go_wp2
      go_ret
      exact ⟨_, rfl, rfl⟩
  · have hn : 1048576 < n1 := by omega
    go_enter Try.func10, Try.ntmps10
    go_wp2
    go_ret
    exact ⟨_, rfl, rfl⟩

/-- Some byte comes back; the world stands. -/
def SomeI (w : World) (e : Ending) (w' : World) : Prop := ∃ b, e = .returned (.int .u8 b) ∧ w = w'
theorem other12 (op : Int) (w : World) : Calls Try.prog 12 #[.int .u8 op] w (SomeI w) := by
  cases hb : (op == 11)
  · go_enter Try.func12, Try.ntmps12
    go_wp2
    go_ret
    exact ⟨_, rfl, rfl⟩
  · go_enter Try.func12, Try.ntmps12
    go_wp2
    go_ret
    exact ⟨_, rfl, rfl⟩

end Go.Proofs.Ytailfkedgdlldac
