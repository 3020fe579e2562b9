import Derived.Test.YtlehgpnglghlkaaKit
import Derived.Test.YtlehgpnglghlkaaUsG
namespace Go.Proofs.Ytlehgpnglghlkaa.fnRecordUsageCountsEveryCall
open Go.ChangeShapes Go.WideShapes Go.ChangeAt Go.RowKit
set_option linter.unusedVariables false
set_option maxRecDepth 100000
set_option maxHeartbeats 2000000


theorem walkIn (a1 : Option Addr) (n len cap : Nat) (z : List Int) (a2 a3 a4 : Bool) (w : World) (hn1 : 1 ≤ n) (hn2 : n ≤ 4096) (hl : len ≤ 65536) (h : IsRow .u32 w a1 len cap z) :
    Calls Try.prog 3 #[.int .i64 n, .slice a1 len cap, .bool a2, .bool a3, .bool a4] w fun e w' => e = .returned (.bool true) ∧ Below w.heap.size w w' := by
  rcases h with ⟨rfl, h1, h2, h3⟩ | ⟨x, rfl, h1, h2, h3, h4, h5⟩
  · cases a2 <;> cases a3 <;> cases a4
    · exact nil_fff n len cap z w hn1 hn2 (by omega) hl
    · exact nil_fft n len cap z w hn1 hn2 (by omega) hl
    · exact nil_ftf n len cap z w hn1 hn2 (by omega) hl
    · exact nil_ftt n len cap z w hn1 hn2 (by omega) hl
    · exact nil_tff n len cap z w hn1 hn2 (by omega) hl
    · exact nil_tft n len cap z w hn1 hn2 (by omega) hl
    · exact nil_ttf n len cap z w hn1 hn2 (by omega) hl
    · exact nil_ttt n len cap z w hn1 hn2 (by omega) hl
  · have hcell : ∀ i, i < len → w.cell? (x.add i) = some (.int .u32 (z.getD i 0)) := fun i hi => h4 i (by omega)
    have hwf : ∀ i, i < len → 0 ≤ z.getD i 0 ∧ z.getD i 0 ≤ 4294967295 := by
      intro i hi
      exact bounds_u32 (h5 (z.getD i 0) (by rw [List.getD_eq_getElem?_getD, List.getElem?_eq_getElem (by omega)]; simp))
    cases a2 <;> cases a3 <;> cases a4
    · exact walk_fff x n len cap z w hn1 hn2 hl hcell hwf
    · exact walk_fft x n len cap z w hn1 hn2 hl hcell hwf
    · exact walk_ftf x n len cap z w hn1 hn2 hl hcell hwf
    · exact walk_ftt x n len cap z w hn1 hn2 hl hcell hwf
    · exact walk_tff x n len cap z w hn1 hn2 hl hcell hwf
    · exact walk_tft x n len cap z w hn1 hn2 hl hcell hwf
    · exact walk_ttf x n len cap z w hn1 hn2 hl hcell hwf
    · exact walk_ttt x n len cap z w hn1 hn2 hl hcell hwf

theorem walk (a0 : Int) (a1 : Option Addr) (len1 cap1 : Nat) (z1 : List Int) (a2 : Bool) (a3 : Bool) (a4 : Bool) (w : World) (w0 : (Lit.int .i64 a0).wf = true) (w1 : IsRow .u32 w a1 len1 cap1 z1) :
    Calls Try.prog 3 #[.int .i64 a0, .slice a1 len1 cap1, .bool a2, .bool a3, .bool a4] w fun e w' => e = .returned (.bool true) ∧ Below w.heap.size w w' := by
  have hlen : len1 ≤ 9223372036854775807 := by
    rcases w1 with ⟨_, h1, _⟩ | ⟨x, _, h1, h2, _⟩
    · omega
    · unfold maxLen at h2; omega
  have H := Lib.hid w1
  clear w1 w0
  by_cases h0 : 1048576 < len1
  · have hd : decide (len1 ≤ 1048576) = false := by simp; omega
    go_enter Try.func3, Try.ntmps3
    go_wp2_with fail
    refine (zz6 _ _ _ _ _ _ _ _ hlen).mono ?_
    rintro e w1 ⟨rfl, rfl⟩
    go_wp2_with fail
    go_ret
    exact ⟨rfl, Below.refl _ _⟩
  have hd : decide (len1 ≤ 1048576) = true := by simp; omega
  by_cases h1 : 65536 < len1
  · go_enter Try.func3, Try.ntmps3
    go_wp2_with fail
    refine (zz6 _ _ _ _ _ _ _ _ hlen).mono ?_
    rintro e w1 ⟨rfl, rfl⟩
    go_wp2_with fail
    go_ret
    exact ⟨rfl, Below.refl _ _⟩
  have h1' : len1 ≤ 65536 := by omega
  by_cases h2 : a0 < 1
  · clear h0 h1
    go_enter Try.func3, Try.ntmps3
    go_wp2_with fail
    refine (zz6 _ _ _ _ _ _ _ _ hlen).mono ?_
    rintro e w1 ⟨rfl, rfl⟩
    go_wp2_with fail
    go_ret
    exact ⟨rfl, Below.refl _ _⟩
  by_cases h3 : 4096 < a0
  · clear h0 h1
    have h2' : 1 ≤ a0 := by omega
    go_enter Try.func3, Try.ntmps3
    go_wp2_with fail
    refine (zz6 _ _ _ _ _ _ _ _ hlen).mono ?_
    rintro e w1 ⟨rfl, rfl⟩
    go_wp2_with fail
    go_ret
    exact ⟨rfl, Below.refl _ _⟩
  obtain ⟨n, rfl⟩ : ∃ n : Nat, a0 = n := ⟨a0.toNat, by omega⟩
  exact walkIn a1 n len1 cap1 z1 a2 a3 a4 w (by omega) (by omega) h1' H.out

end Go.Proofs.Ytlehgpnglghlkaa.fnRecordUsageCountsEveryCall
