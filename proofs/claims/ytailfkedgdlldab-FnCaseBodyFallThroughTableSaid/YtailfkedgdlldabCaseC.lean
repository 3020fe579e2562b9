import Derived.Test.YtailfkedgdlldabKit
import Derived.Test.YtailfkedgdlldabCaseB
namespace Go.Proofs.Ytailfkedgdlldab.fnCaseBodyFallThroughTable
open Go.ChangeShapes Go.WideShapes Go.ChangeAt Go.RowKit
set_option linter.unusedVariables false
set_option maxRecDepth 100000
set_option maxHeartbeats 2000000

theorem stmts_nil (w : World) : Calls Try.prog 31 #[.slice none 0 0, .int .i64 1] w fun e w' => e = .returned (.slice (some ⟨w.heap.size, 0, none⟩) 0 (0 + 1)) ∧ Made w' w.heap.size w.heap.size 0 [] 0 ∧ Below w.heap.size w w' := by
  obtain ⟨i0, hi, hz0, hz1, hz2⟩ := info_parts info75
  go_enter Try.func31, Try.ntmps31
  go_wp2_with (at_make; refine wpList_make_own _ rfl _ _ 70 rfl w.heap.size 75 i0 _ 2 Try.underlying70 hi hz0 hz1 .i64 .i64 _ 1 rfl rfl (by omega) (by rw [hz2]; omega) (by unfold maxLen; omega) (Nat.le_refl _) ?_; intro w1 hown hgrow)
  have hb1 : Below w.heap.size w w1 := (Below.refl _ _).grown hgrow (Nat.le_refl _) (fun k hk => by cases hk)
  have hM1 : Hid (Made w1 w.heap.size w.heap.size 0 [] 0) := ⟨_, hown, fun h => by omega⟩
  clear hown hgrow
  refine wp_loop_rounds 1 ?_
  rw [rounds_succ]
  go_wp2
  go_ret
  exact ⟨rfl, hM1.out, hb1⟩

theorem stmts (v : Value) (n : Nat) (z : List Int) (w : World) (hn : n ≤ 1048576) (h : Codes w v n z) (hwf : ∀ i, i < n → 0 ≤ z.getD i 0 ∧ z.getD i 0 ≤ 255) :
    Calls Try.prog 31 #[v, .int .i64 1] w fun e w' => e = .returned (.slice (some ⟨w.heap.size, 0, none⟩) n (n + 1)) ∧ Made w' w.heap.size w.heap.size n z n ∧ Below w.heap.size w w' := by
  rcases h with ⟨rfl, rfl⟩ | ⟨x, c, rfl, _, hc⟩
  · refine (stmts_nil w).mono ?_
    rintro e w1 ⟨rfl, ⟨xs, h1, _⟩, h2⟩
    exact ⟨rfl, ⟨xs, h1, fun h => by omega⟩, h2⟩
  · exact stmts_some x n c z w hn hc hwf

/-- The rows of a slice of slices, as far as its lengths go. -/
def Lens (w : World) (x : Addr) (len : Nat) (L : Nat → Nat) : Prop := ∀ r, r < len → L r ≤ 9223372036854775807 ∧ ∃ a c, w.cell? (x.add r) = some (.slice a (L r) c)

/-- Some bool comes back, of which P holds; the world stands. -/
def SomeB (P : Bool → Prop) (w : World) (e : Ending) (w' : World) : Prop := ∃ b, P b ∧ e = .returned (.bool b) ∧ w = w'

def Short (n : Nat) (L : Nat → Nat) : Prop := ∀ r, r < n → L r ≤ 1048576

theorem zzbytes (x : Addr) (len cap : Nat) (L : Nat → Nat) (w : World) (hm : len ≤ 9223372036854775807) (h : Lens w x len L) :
    Calls Try.prog 28 #[.slice (some x) len cap] w (SomeB (fun _ => True) w) := by
  have H := Lib.hid h
  clear h
  by_cases h1 : 1048576 < len
  · go_enter Try.func28, Try.ntmps28
    go_wp2
    go_ret
    exact ⟨_, trivial, rfl, rfl⟩
  have h2 : len ≤ 1048576 := by omega
  go_enter Try.func28, Try.ntmps28
  go_wp2
  go_loop [3, 4] (fun v3 v4 => ∃ (k : Nat) (n : Int), k ≤ len ∧ v4 = .int .i64 k ∧ v3 = .int .i64 n ∧ 0 ≤ n ∧ n ≤ 1048576) (fun _ v4 => len - (intOf v4).toNat)
  case atStart => exact ⟨0, len, Nat.zero_le _, rfl, rfl, by omega, by omega⟩
  case round =>
    obtain ⟨k, n, hk, rfl, rfl, n0, n1⟩ := hrel
    by_cases hlt : k < len
    · obtain ⟨hL, a, c, hc⟩ := H.out k hlt
      obtain ⟨l, hl⟩ : ∃ l, L k = l := ⟨_, rfl⟩
      rw [hl] at hL hc
      clear hl
      by_cases hs : 1048576 < l
      · go_wp2
        go_ret
        exact ⟨_, trivial, rfl, rfl⟩
      · have hs2 : l ≤ 1048576 := by omega
        by_cases hs3 : 1048576 < n + l
        · go_wp2
          go_ret
          exact ⟨_, trivial, rfl, rfl⟩
        · go_wp2
          go_round
          case rel => exact ⟨k + 1, n + l, by omega, by go_num, by go_num, by omega, by omega⟩
          case measure => simp [intOf]; omega
    · obtain rfl : k = len := by omega
      go_wp2
      go_ret
      exact ⟨_, trivial, rfl, rfl⟩

/-- Too great, or not: then the lengths are small. -/
def Fits (len : Nat) (L : Nat → Nat) (b : Bool) : Prop := b = false → len ≤ 4096 ∧ Short len L

theorem levelsFail (x : Addr) (len cap : Nat) (L : Nat → Nat) (w : World) (hm : len ≤ 9223372036854775807) (h : Lens w x len L) :
    Calls Try.prog 29 #[.slice (some x) len cap] w (SomeB (Fits len L) w) := by
  have H := Lib.hid h
  clear h
  by_cases h1 : 4096 < len
  · go_enter Try.func29, Try.ntmps29
    go_wp2
    go_ret
    exact ⟨_, (fun h => by cases h), rfl, rfl⟩
  have h2 : len ≤ 4096 := by omega
  go_enter Try.func29, Try.ntmps29
  go_wp2
  go_loop [3, 4] (fun v3 v4 => ∃ (k : Nat) (n : Int), k ≤ len ∧ v4 = .int .i64 k ∧ v3 = .int .i64 n ∧ 0 ≤ n ∧ n ≤ 1048576 ∧ Short k L) (fun _ v4 => len - (intOf v4).toNat)
  case atStart => exact ⟨0, 24 * len, Nat.zero_le _, rfl, rfl, by omega, by omega, fun r hr => by omega⟩
  case round =>
    obtain ⟨k, n, hk, rfl, rfl, n0, n1, hsh⟩ := hrel
    have HSh := Lib.hid hsh
    clear hsh
    by_cases hlt : k < len
    · obtain ⟨hL, a, c, hc⟩ := H.out k hlt
      obtain ⟨l, hl⟩ : ∃ l, L k = l := ⟨_, rfl⟩
      rw [hl] at hL hc
      have HL := Lib.hid hl
      clear hl
      by_cases hs : 1048576 < l
      · go_wp2
        go_ret
        exact ⟨_, (fun h => by cases h), rfl, rfl⟩
      · have hs2 : l ≤ 1048576 := by omega
        by_cases hs3 : 1048576 < n + l
        · go_wp2
          go_ret
          exact ⟨_, (fun h => by cases h), rfl, rfl⟩
        · go_wp2
          go_round
          case rel =>
            refine ⟨k + 1, n + l, by omega, by go_num, by go_num, by omega, by omega, fun r hr => ?_⟩
            by_cases e : r = k
            · rw [e, HL.out]; omega
            · exact HSh.out r (by omega)
          case measure => simp [intOf]; omega
    · obtain rfl : k = len := by omega
      go_wp2
      go_ret
      exact ⟨_, fun _ => ⟨h2, HSh.out⟩, rfl, rfl⟩

end Go.Proofs.Ytailfkedgdlldab.fnCaseBodyFallThroughTable
