import Derived.Test.YtailfkedgdlldaaKit
import Derived.Test.YtailfkedgdlldaaIgE
namespace Go.Proofs.Ytailfkedgdlldaa.fnIgnoreDotChainUndoesRecordUsage
open Go.ChangeShapes Go.WideShapes Go.ChangeAt Go.RowKit
set_option linter.unusedVariables false
set_option maxRecDepth 100000
set_option maxHeartbeats 2000000

/-- Some bool comes back, true only if the lengths are small; the world stands. -/
def SomeB (p : Prop) (w : World) (e : Ending) (w' : World) : Prop := ∃ b, e = .returned (.bool b) ∧ w = w' ∧ (b = true → p)

theorem zz13b (a1 : Option Addr) (n1 c1 : Nat) (k : Int) (a2 : Option Addr) (n2 c2 : Nat) (b1 b2 b3 : Bool) (pc : Int) (w : World) (h1 : n1 ≤ 9223372036854775807) (h2 : n2 ≤ 9223372036854775807) : Calls Try.prog 13 #[.slice a1 n1 c1, .int .i64 k, .slice a2 n2 c2, .bool b1, .bool b2, .bool b3, .int .u32 pc] w (SomeB (n1 ≤ 1048576 ∧ n2 ≤ 1048576) w) := by
  by_cases h : n1 ≤ 1048576
  · by_cases h' : n2 ≤ 1048576
    · by_cases hs : n1 + n2 ≤ 1048576
      · go_enter Try.func13, Try.ntmps13
        go_wp2
        go_ret
        exact ⟨_, rfl, rfl, fun _ => ⟨h, h'⟩⟩
      · go_enter Try.func13, Try.ntmps13
        go_wp2
        all_goals
          go_ret
          exact ⟨_, rfl, rfl, fun _ => ⟨h, h'⟩⟩
    · have hn : 1048576 < n2 := by omega
      go_enter Try.func13, Try.ntmps13
      go_wp2
      go_ret
      exact ⟨_, rfl, rfl, fun e => by cases e⟩
  · have hn : 1048576 < n1 := by omega
    go_enter Try.func13, Try.ntmps13
    go_wp2
    go_ret
    exact ⟨_, rfl, rfl, fun e => by cases e⟩

theorem early (a0 : Option Addr) (len0 cap0 : Nat) (a1 : Int) (a2 : Option Addr) (len2 cap2 : Nat) (a3 a4 a5 : Bool) (a6 : Int) (w : World) (h0 : len0 ≤ 9223372036854775807) (h2 : len2 ≤ 9223372036854775807)
    (h : 1048576 < len0 ∨ 1048576 < len2 ∨ 1048576 < 4 * len0 + len2 ∨ len0 = 0 ∨ 65536 < len0 ∨ 65536 < len2 ∨ a1 < 0 ∨ (len0 : Int) ≤ a1 ∨ (a4 = true ∧ a5 = true ∧ a6 = 0)) :
    Calls Try.prog 4 #[.slice a0 len0 cap0, .int .i64 a1, .slice a2 len2 cap2, .bool a3, .bool a4, .bool a5, .int .u32 a6] w fun e w' => e = .returned (.bool true) ∧ Below w.heap.size w w' := by
  by_cases hbig : 1048576 < len0 ∨ 1048576 < len2
  · have HB := Lib.hid hbig
    clear h hbig
    go_enter Try.func4, Try.ntmps4
    go_wp2_with fail
    refine (zz13b _ _ _ _ _ _ _ _ _ _ _ _ h0 h2).mono ?_
    rintro e w1 ⟨b, rfl, rfl, hb⟩
    cases b
    · go_wp2_with fail
      go_ret
      exact ⟨rfl, Below.refl _ _⟩
    · have := hb rfl
      have := HB.out
      omega
  · have e0 : len0 ≤ 1048576 := by omega
    have e2 : len2 ≤ 1048576 := by omega
    by_cases hs : 1048576 < 4 * len0 + len2
    · have hs' : 1048576 < (len0 : Int) * 4 + len2 := by omega
      clear h hbig hs
      go_enter Try.func4, Try.ntmps4
      go_wp2_with fail
      refine (zz13b _ _ _ _ _ _ _ _ _ _ _ _ h0 h2).mono ?_
      rintro e w1 ⟨b, rfl, rfl, hb⟩
      cases b
      all_goals
        go_wp2_with fail
        go_ret
        exact ⟨rfl, Below.refl _ _⟩
    · have hs' : ¬ 1048576 < (len0 : Int) * 4 + len2 := by omega
      by_cases hz : len0 = 0
      · have hz' : ((len0 : Int) == 0) = true := by simp [hz]
        clear h hbig hs hz
        go_enter Try.func4, Try.ntmps4
        go_wp2_with fail
        refine (zz13b _ _ _ _ _ _ _ _ _ _ _ _ h0 h2).mono ?_
        rintro e w1 ⟨b, rfl, rfl, hb⟩
        cases b
        all_goals
          go_wp2_with fail
          go_ret
          exact ⟨rfl, Below.refl _ _⟩
      · have hz' : ((len0 : Int) == 0) = false := by simp; omega
        by_cases h3 : 65536 < len0
        · clear h hbig hs hz
          go_enter Try.func4, Try.ntmps4
          go_wp2_with fail
          refine (zz13b _ _ _ _ _ _ _ _ _ _ _ _ h0 h2).mono ?_
          rintro e w1 ⟨b, rfl, rfl, hb⟩
          cases b
          all_goals
            go_wp2_with fail
            go_ret
            exact ⟨rfl, Below.refl _ _⟩
        · by_cases h4 : 65536 < len2
          · clear h hbig hs hz
            go_enter Try.func4, Try.ntmps4
            go_wp2_with fail
            refine (zz13b _ _ _ _ _ _ _ _ _ _ _ _ h0 h2).mono ?_
            rintro e w1 ⟨b, rfl, rfl, hb⟩
            cases b
            all_goals
              go_wp2_with fail
              go_ret
              exact ⟨rfl, Below.refl _ _⟩
          · by_cases h5 : a1 < 0
            · clear h hbig hs hz
              go_enter Try.func4, Try.ntmps4
              go_wp2_with fail
              refine (zz13b _ _ _ _ _ _ _ _ _ _ _ _ h0 h2).mono ?_
              rintro e w1 ⟨b, rfl, rfl, hb⟩
              cases b
              all_goals
                go_wp2_with fail
                go_ret
                exact ⟨rfl, Below.refl _ _⟩
            · by_cases h6 : (len0 : Int) ≤ a1
              · clear h hbig hs hz
                go_enter Try.func4, Try.ntmps4
                go_wp2_with fail
                refine (zz13b _ _ _ _ _ _ _ _ _ _ _ _ h0 h2).mono ?_
                rintro e w1 ⟨b, rfl, rfl, hb⟩
                cases b
                all_goals
                  go_wp2_with fail
                  go_ret
                  exact ⟨rfl, Below.refl _ _⟩
              · obtain ⟨rfl, rfl, rfl⟩ : a4 = true ∧ a5 = true ∧ a6 = 0 := by
                  rcases h with h | h | h | h | h | h | h | h | h
                  · omega
                  · omega
                  · omega
                  · omega
                  · omega
                  · omega
                  · omega
                  · omega
                  · exact h
                clear hbig hs hz h
                go_enter Try.func4, Try.ntmps4
                go_wp2_with fail
                refine (zz13b _ _ _ _ _ _ _ _ _ _ _ _ h0 h2).mono ?_
                rintro e w1 ⟨b, rfl, rfl, hb⟩
                cases b
                all_goals
                  go_wp2_with fail
                  go_ret
                  exact ⟨rfl, Below.refl _ _⟩

theorem walk (a0 : Option Addr) (len0 cap0 : Nat) (z0 : List Int) (a1 : Int) (a2 : Option Addr) (len2 cap2 : Nat) (z2 : List Int) (a3 : Bool) (a4 : Bool) (a5 : Bool) (a6 : Int) (w : World) (w0 : IsRow .u32 w a0 len0 cap0 z0) (w1 : (Lit.int .i64 a1).wf = true) (w2 : IsRow .u8 w a2 len2 cap2 z2) (w6 : (Lit.int .u32 a6).wf = true) :
    Calls Try.prog 4 #[.slice a0 len0 cap0, .int .i64 a1, .slice a2 len2 cap2, .bool a3, .bool a4, .bool a5, .int .u32 a6] w fun e w' => e = .returned (.bool true) ∧ Below w.heap.size w w' := by
  have hl0 : len0 ≤ 9223372036854775807 := by
    rcases w0 with ⟨_, h1, _⟩ | ⟨x, _, h1, h2, _⟩
    · omega
    · unfold maxLen at h2; omega
  have hl2 : len2 ≤ 9223372036854775807 := by
    rcases w2 with ⟨_, h1, _⟩ | ⟨x, _, h1, h2, _⟩
    · omega
    · unfold maxLen at h2; omega
  have hp := bounds_u32 w6
  by_cases h : 1048576 < len0 ∨ 1048576 < len2 ∨ 1048576 < 4 * len0 + len2 ∨ len0 = 0 ∨ 65536 < len0 ∨ 65536 < len2 ∨ a1 < 0 ∨ (len0 : Int) ≤ a1 ∨ (a4 = true ∧ a5 = true ∧ a6 = 0)
  · exact early a0 len0 cap0 a1 a2 len2 cap2 a3 a4 a5 a6 w hl0 hl2 h
  · have hz : ¬ (a4 = true ∧ a5 = true ∧ a6 = 0) := fun e => h (by simp [e])
    have hq : 1 ≤ len0 ∧ len0 ≤ 65536 ∧ len2 ≤ 65536 ∧ 4 * len0 + len2 ≤ 1048576 ∧ 0 ≤ a1 ∧ a1 < len0 := by omega
    obtain ⟨q1, q2, q3, q4, q5, q6⟩ := hq
    obtain ⟨k, rfl⟩ : ∃ k : Nat, a1 = k := ⟨a1.toNat, by omega⟩
    clear h
    rcases w0 with ⟨_, h1, _⟩ | ⟨x, rfl, h1, h2, h3, h4, h5⟩
    · omega
    have hcell : ∀ i, i < len0 → w.cell? (x.add i) = some (.int .u32 (z0.getD i 0)) := fun i hi => h4 i (by omega)
    have hwf : ∀ i, i < len0 → 0 ≤ z0.getD i 0 ∧ z0.getD i 0 ≤ 4294967295 := by
      intro i hi
      exact bounds_u32 (h5 (z0.getD i 0) (by rw [List.getD_eq_getElem?_getD, List.getElem?_eq_getElem (by omega)]; simp))
    rcases w2 with ⟨rfl, g1, _, _⟩ | ⟨y2, rfl, g1, g2, g3, g4, g5⟩
    · cases a4
      · exact walk_nn x len0 cap0 k len2 cap2 z0 z2 a3 a5 a6 w q1 q2 (by omega) (by omega) q4 hp.1 hp.2 hcell hwf
      · cases a5
        · exact walk_an x len0 cap0 k len2 cap2 z0 z2 a3 a6 w q1 q2 (by omega) (by omega) q4 hp.1 hp.2 hcell hwf
        · exact walk_bn x len0 cap0 k len2 cap2 z0 z2 a3 a6 w q1 q2 (by omega) (by omega) q4 hp.1 hp.2 (by have : a6 ≠ 0 := fun e => hz ⟨rfl, rfl, e⟩; omega) hcell hwf
    · have hstep : ∀ i, i < len2 → w.cell? (y2.add i) = some (.int .u8 (z2.getD i 0)) := fun i hi => g4 i (by omega)
      have hsw : ∀ i, i < len2 → 0 ≤ z2.getD i 0 ∧ z2.getD i 0 ≤ 255 := by
        intro i hi
        exact bounds_u8 (g5 (z2.getD i 0) (by rw [List.getD_eq_getElem?_getD, List.getElem?_eq_getElem (by omega)]; simp))
      cases a4
      · exact walk_ns x y2 len0 cap0 k len2 cap2 z0 z2 a3 a5 a6 w q1 q2 (by omega) q3 q4 hp.1 hp.2 hcell hwf hstep hsw
      · cases a5
        · exact walk_as x y2 len0 cap0 k len2 cap2 z0 z2 a3 a6 w q1 q2 (by omega) q3 q4 hp.1 hp.2 hcell hwf hstep hsw
        · exact walk_bs x y2 len0 cap0 k len2 cap2 z0 z2 a3 a6 w q1 q2 (by omega) q3 q4 hp.1 hp.2 (by have : a6 ≠ 0 := fun e => hz ⟨rfl, rfl, e⟩; omega) hcell hwf hstep hsw

end Go.Proofs.Ytailfkedgdlldaa.fnIgnoreDotChainUndoesRecordUsage
