import Derived.Test.YtailfkedgdlldaaKit
import Derived.Test.YtailfkedgdlldaaRdA
import Derived.Laws.IdiomStrings
namespace Go.Proofs.Ytailfkedgdlldaa
open Go.ChangeShapes Go.WideShapes Go.ChangeAt Go.RowKit
set_option linter.unusedVariables false
set_option maxRecDepth 100000
set_option maxHeartbeats 2000000

/-- The name of a number. -/
def nmB (j : Int) : ByteArray := ⟨[(110 : UInt8), UInt8.ofNat (48 + j % 8).toNat].toArray⟩
def SomeU (w : World) (e : Ending) (w' : World) : Prop := ∃ b : Int, e = .returned (.int .u8 b) ∧ 0 ≤ b ∧ b ≤ 255 ∧ w = w'

theorem name31 (j : Int) (w : World) (h0 : 0 ≤ j) (h1 : j ≤ 255) : Calls Try.prog 31 #[.int .u8 j] w fun e w' => e = .returned (.string (nmB j)) ∧ Below w.heap.size w w' := by
  have hcv : (convert 32 9 (.slice (some ⟨w.heap.size, 0, none⟩) 2 2)).run Try.prog (w.alloc (.cells #[.int .u8 110, .int .u8 (48 + j % 8)] 5)) = .ok (.string ⟨[(110 : UInt8), UInt8.ofNat (48 + j % 8).toNat].toArray⟩) (w.alloc (.cells #[.int .u8 110, .int .u8 (48 + j % 8)] 5)) := by
    refine run_convert_bytes_back (P := Try.prog) _ 32 9 5 ⟨w.heap.size, 0, none⟩ 2 [(110 : UInt8), UInt8.ofNat (48 + j % 8).toNat] Try.underlying32 Try.underlying5 Try.underlying9 fun i hi => ?_
    have hr := RowAt.new w #[.int .u8 110, .int .u8 (48 + j % 8)] 5
    have e : (⟨w.heap.size, 0, none⟩ : Addr).add i = ⟨w.heap.size, i, none⟩ := by
      unfold Addr.add
      split
      · rename_i h; rw [h]
      · simp
    rw [e]
    have hi' : i < 2 := by simpa using hi
    have h2 : i = 0 ∨ i = 1 := by omega
    rcases h2 with rfl | rfl
    · exact hr.cellv rfl
    · refine hr.cellv ?_
      have h3 : (UInt8.ofNat (48 + j % 8).toNat).toNat = (48 + j % 8).toNat := by
        rw [UInt8.toNat_ofNat']
        omega
      have h4 : (((48 + j % 8).toNat : Nat) : Int) = 48 + j % 8 := by omega
      simp only [List.getElem_cons_succ, List.getElem_cons_zero, h3, h4]
      rfl
  go_enter Try.func31, Try.ntmps31
  go_wp2_with fail
  go_ret
  exact ⟨rfl, by go_grown⟩

theorem ref28 (m : Nat) (w : World) (h : m ≤ 65537) : Calls Try.prog 28 #[.int .i64 m] w fun e w' => e = .returned (.agg #[.int .u32 1, .int .u32 m]) ∧ Below w.heap.size w w' := by
  go_enter Try.func28, Try.ntmps28
  go_wp2_with fail
  go_returns
  exact ⟨rfl, by go_grown⟩

theorem mode26 (w : World) : Calls Try.prog 26 #[.bool false] w fun e w' => ∃ m, e = .returned (.int .u8 m) ∧ Below w.heap.size w w' := by
  go_enter Try.func26, Try.ntmps26
  go_wp2_with fail
  go_ret
  exact ⟨_, rfl, by go_grown⟩

theorem idx32 (a : Option Addr) (len cap i : Nat) (z : List Int) (w : World) (hi : i ≤ 65537) (hl : len ≤ 65536) (h : IsRow .u8 w a len cap z) (hz : ∀ i, i < len → 0 ≤ z.getD i 0 ∧ z.getD i 0 ≤ 255) : Calls Try.prog 32 #[.slice a len cap, .int .i64 i] w (SomeU w) := by
  by_cases h0 : len = 0
  · subst h0
    clear h hz
    go_enter Try.func32, Try.ntmps32
    go_wp2_with fail
    go_ret
    exact ⟨_, rfl, by omega, by omega, rfl⟩
  · have hb : ((len : Int) == 0) = false := by simp; omega
    rcases h with ⟨_, h1, _⟩ | ⟨x, rfl, h1, h2, h3, h4, h5⟩
    · omega
    obtain ⟨q, hq⟩ : ∃ q : Nat, (i % len) = q := ⟨_, rfl⟩
    have hql : q < len := by rw [← hq]; exact Nat.mod_lt _ (by omega)
    obtain ⟨u, hu⟩ : ∃ u, z.getD q 0 = u := ⟨_, rfl⟩
    have c0 := h4 q (by omega)
    have hz0 := hz q hql
    rw [hu] at c0 hz0
    obtain ⟨u0, u1⟩ := hz0
    have hm : ((i : Int) % (len : Int)) = (q : Int) := by rw [← hq]; omega
    have hpos : (0 : Int) < (len : Int) := by omega
    have hne : ((len : Int) = 0) = False := by simp; omega
    clear hu hz h4 h5 h3 h2 h0
    go_enter Try.func32, Try.ntmps32
    go_wp2_with fail
    go_ret
    exact ⟨_, rfl, by omega, by omega, rfl⟩

theorem kind33 (a : Option Addr) (len cap i : Nat) (z : List Int) (w : World) (hi : i ≤ 65537) (hl : len ≤ 65536) (h : IsRow .u8 w a len cap z) (hz : ∀ i, i < len → 0 ≤ z.getD i 0 ∧ z.getD i 0 ≤ 255) : Calls Try.prog 33 #[.slice a len cap, .int .i64 i] w (SomeU w) := by
  by_cases h0 : len = 0
  · subst h0
    clear h hz
    go_enter Try.func33, Try.ntmps33
    go_wp2_with fail
    go_ret
    exact ⟨_, rfl, by omega, by omega, rfl⟩
  · have hb : ((len : Int) == 0) = false := by simp; omega
    rcases h with ⟨_, h1, _⟩ | ⟨x, rfl, h1, h2, h3, h4, h5⟩
    · omega
    obtain ⟨q, hq⟩ : ∃ q : Nat, (i % len) = q := ⟨_, rfl⟩
    have hql : q < len := by rw [← hq]; exact Nat.mod_lt _ (by omega)
    obtain ⟨u, hu⟩ : ∃ u, z.getD q 0 = u := ⟨_, rfl⟩
    have c0 := h4 q (by omega)
    have hz0 := hz q hql
    rw [hu] at c0 hz0
    obtain ⟨u0, u1⟩ := hz0
    have hm : ((i : Int) % (len : Int)) = (q : Int) := by rw [← hq]; omega
    have hpos : (0 : Int) < (len : Int) := by omega
    have hne : ((len : Int) = 0) = False := by simp; omega
    clear hu hz h4 h5 h3 h2 h0
    cases e0 : (u % 3 == 0)
    · cases e1 : (u % 3 == 1)
      · go_enter Try.func33, Try.ntmps33
        go_wp2_with fail
        go_ret
        exact ⟨_, rfl, by omega, by omega, rfl⟩
      · go_enter Try.func33, Try.ntmps33
        go_wp2_with fail
        go_ret
        exact ⟨_, rfl, by omega, by omega, rfl⟩
    · go_enter Try.func33, Try.ntmps33
      go_wp2_with fail
      go_ret
      exact ⟨_, rfl, by omega, by omega, rfl⟩

/-- A member's index, or none. -/
def SomeM (n : Nat) (w : World) (e : Ending) (w' : World) : Prop := ∃ m : Int, e = .returned (.int .i64 m) ∧ -1 ≤ m ∧ m < n ∧ w = w'

theorem mem34 (a : Option Addr) (len cap j n : Nat) (z : List Int) (w : World) (hj : j ≤ 8) (hn : n ≤ 65537) (hl : len ≤ 65536) (h : IsRow .u16 w a len cap z) (hz : ∀ i, i < len → 0 ≤ z.getD i 0 ∧ z.getD i 0 ≤ 65535) : Calls Try.prog 34 #[.slice a len cap, .int .u8 j, .int .i64 n] w (SomeM n w) := by
  by_cases h0 : j < len
  · rcases h with ⟨_, h1, _⟩ | ⟨x, rfl, h1, h2, h3, h4, h5⟩
    · omega
    obtain ⟨u, hu⟩ : ∃ u, z.getD j 0 = u := ⟨_, rfl⟩
    have c0 := h4 j (by omega)
    have hz0 := hz j h0
    rw [hu] at c0 hz0
    obtain ⟨u0, u1⟩ := hz0
    have hjl : (j : Int) < (len : Int) := by omega
    clear hu hz h4 h5 h3 h2
    by_cases hun : u < n
    · go_enter Try.func34, Try.ntmps34
      go_wp2_with fail
      go_ret
      exact ⟨_, rfl, by omega, by omega, rfl⟩
    · have hun' : (n : Int) ≤ u := by omega
      go_enter Try.func34, Try.ntmps34
      go_wp2_with fail
      go_ret
      exact ⟨_, rfl, by omega, by omega, rfl⟩
  · have hjl : (len : Int) ≤ (j : Int) := by omega
    clear h hz
    go_enter Try.func34, Try.ntmps34
    go_wp2_with fail
    go_ret
    exact ⟨_, rfl, by omega, by omega, rfl⟩

end Go.Proofs.Ytailfkedgdlldaa
