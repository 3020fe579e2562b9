import Derived.Test.YtfmfniddnlpkmaaDoorKit
import Derived.Test.YtfmfniddnlpkmaaDoorCuE
import Derived.IntWalk
namespace Go.Proofs.YtfmfniddnlpkmaaDoor.fnCheckUnusedTSImportEqualsFrame
open Go.ChangeShapes Go.WideShapes Go.ChangeAt Go.RowKit
set_option linter.unusedVariables false
set_option maxRecDepth 100000
set_option maxHeartbeats 4000000

theorem zz11 (a1 : Option Addr) (n1 c1 : Nat) (k d : Int) (ex : Bool) (b v : Int) (w : World) (h1 : n1 ≤ 1048576) : Calls Tryd.prog 11 #[.slice a1 n1 c1, .int .u8 k, .bool ex, .int .u32 b, .int .u32 v, .int .u8 d] w fun e w' => e = .returned (.bool true) ∧ w = w' := by
  go_enter Tryd.func11, Tryd.ntmps11
  go_wp2
  go_ret
  exact ⟨rfl, rfl⟩
theorem zz11f (a1 : Option Addr) (n1 c1 : Nat) (k d : Int) (ex : Bool) (b v : Int) (w : World) (h1 : 1048576 < n1) : Calls Tryd.prog 11 #[.slice a1 n1 c1, .int .u8 k, .bool ex, .int .u32 b, .int .u32 v, .int .u8 d] w fun e w' => e = .returned (.bool false) ∧ w = w' := by
  go_enter Tryd.func11, Tryd.ntmps11
  go_wp2
  go_ret
  exact ⟨rfl, rfl⟩

theorem early (a1 : Option Addr) (n1 c1 : Nat) (k d : Int) (ex : Bool) (b v : Int) (w : World) (hl : n1 ≤ 9223372036854775807) (h : 65536 < n1 ∨ n1 = 0) :
    Calls Tryd.prog 4 #[.slice a1 n1 c1, .int .u8 k, .bool ex, .int .u32 b, .int .u32 v, .int .u8 d] w fun e w' => e = .returned (.bool true) ∧ Below w.heap.size w w' := by
  by_cases h1 : 1048576 < n1
  · go_enter Tryd.func4, Tryd.ntmps4
    go_wp2_with fail
    refine (zz11f a1 n1 c1 k d ex b v w h1).mono ?_
    rintro e wx ⟨rfl, rfl⟩
    go_wp2_with fail
    go_ret
    exact ⟨rfl, Below.refl _ _⟩
  · rcases h with h | rfl
    · go_enter Tryd.func4, Tryd.ntmps4
      go_wp2_with fail
      refine (zz11 a1 n1 c1 k d ex b v w (by omega)).mono ?_
      rintro e wx ⟨rfl, rfl⟩
      go_wp2_with fail
      go_ret
      exact ⟨rfl, Below.refl _ _⟩
    · go_enter Tryd.func4, Tryd.ntmps4
      go_wp2_with fail
      refine (zz11 a1 0 c1 k d ex b v w (by omega)).mono ?_
      rintro e wx ⟨rfl, rfl⟩
      go_wp2_with fail
      go_ret
      exact ⟨rfl, Below.refl _ _⟩

end Go.Proofs.YtfmfniddnlpkmaaDoor.fnCheckUnusedTSImportEqualsFrame
