import Derived.Test.YtpbajadomgdajaaDoorKit
import Derived.Test.YtpbajadomgdajaaDoorGnH
import Derived.Test.YtpbajadomgdajaaDoorGnE
namespace Go.Proofs.YtpbajadomgdajaaDoor
open Go.ChangeShapes Go.WideShapes Go.ChangeAt Go.RowKit
set_option linter.unusedVariables false
set_option maxRecDepth 100000
set_option maxHeartbeats 2000000

theorem gen6 (s : ByteArray) (hn : NoSep s) (hs : s.size ≤ 1048576) (B : Nat) (W : World) (hB : B ≤ W.heap.size) (hT : TB B W) : Calls Tryd.prog 6 #[.string s] W (NameIs s W) := by
  have b1 := base9 s hn hs B W hB hT
  cases hx : (s.toList == [105, 110, 100, 101, 120]) with
  | true =>
    have b2 := base9 ⟨#[]⟩ (fun i h => absurd h (Nat.not_lt_zero i)) (Nat.zero_le _) B
    go_enter Tryd.func6, Tryd.ntmps6
    go_wp2_with fail
    refine b1.mono ?_
    rintro e w1 ⟨rfl, hw⟩
    clear b1
    go_wp2_with fail
    refine (b2 w1 (Nat.le_trans hB hw.size) (hT.below (hw.mono hB))).mono ?_
    rintro e w2 ⟨rfl, hw2⟩
    clear b2
    go_wp2_with fail
    refine (ens10 s hs w2).mono ?_
    rintro e w3 ⟨rfl, hw3⟩
    go_wp2
    go_ret
    exact ⟨rfl, (hw.trans (hw2.mono hw.size)).trans (hw3.mono (Nat.le_trans hw.size hw2.size))⟩
  | false =>
    go_enter Tryd.func6, Tryd.ntmps6
    go_wp2_with fail
    refine b1.mono ?_
    rintro e w1 ⟨rfl, hw⟩
    clear b1
    go_wp2_with fail
    refine (ens10 s hs w1).mono ?_
    rintro e w3 ⟨rfl, hw3⟩
    go_wp2
    go_ret
    exact ⟨rfl, hw.trans (hw3.mono hw.size)⟩
def TrueAt (W : World) (e : Ending) (W' : World) : Prop := e = .returned (.bool true) ∧ Below W.heap.size W W'
theorem walk (s : ByteArray) (W : World) (hT : TB W.heap.size W) : Calls Tryd.prog 3 #[.string s] W (TrueAt W) := by
  by_cases hl : (1048576 : Int) < (s.size : Int)
  · go_enter Tryd.func3, Tryd.ntmps3
    go_wp2_with fail
    refine (zz4 s _).mono ?_
    rintro e w1 ⟨r, rfl, rfl⟩
    cases r <;> (go_wp2_with fail; go_ret; exact ⟨rfl, Below.refl _ _⟩)
  · have hs : s.size ≤ 1048576 := by omega
    have HS := Lib.hid hs
    go_enter Tryd.func3, Tryd.ntmps3
    go_wp2_with fail
    refine (zz4 s _).mono ?_
    rintro e w1 ⟨r, rfl, rfl⟩
    cases r with
    | false => go_wp2_with fail; go_ret; exact ⟨rfl, Below.refl _ _⟩
    | true =>
      go_wp2_with fail
      refine (has5 s (by omega) _).mono ?_
      rintro e w2 ⟨hw, h⟩
      rw [hw]
      clear hw w2
      rcases h with rfl | ⟨rfl, hn⟩
      · go_wp2_with fail; go_ret; exact ⟨rfl, Below.refl _ _⟩
      · have h6 := gen6 s hn HS.out W.heap.size W (Nat.le_refl _) hT
        clear hn
        go_wp2_with fail
        refine h6.mono ?_
        rintro e w2 ⟨rfl, hw2⟩
        clear h6
        go_wp2_with fail
        refine (model7 s HS.out w2).mono ?_
        rintro e w3 ⟨rfl, hw3⟩
        have heq : ((⟨(gname s.data.toList).toArray⟩ : ByteArray).toList == (⟨(gname s.data.toList).toArray⟩ : ByteArray).toList) = true := by simp
        go_wp2_with fail
        go_ret
        exact ⟨rfl, hw2.trans (hw3.mono hw2.size)⟩

end Go.Proofs.YtpbajadomgdajaaDoor
