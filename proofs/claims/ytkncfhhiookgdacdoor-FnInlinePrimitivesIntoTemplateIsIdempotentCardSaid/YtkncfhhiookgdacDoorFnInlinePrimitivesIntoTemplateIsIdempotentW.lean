import Derived.Test.YtkncfhhiookgdacDoorKit
import Derived.Test.YtkncfhhiookgdacDoorIpN
namespace Go.Proofs.YtkncfhhiookgdacDoor.fnInlinePrimitivesIntoTemplateIsIdempotent
open Go.Proofs.YtkncfhhiookgdacDoor
open Go.ChangeShapes Go.WideShapes Go.ChangeAt Go.RowKit
set_option linter.unusedVariables false
set_option maxRecDepth 100000
set_option maxHeartbeats 2000000

open Go.Extern
def RowsOk (w : World) (a : Option Addr) (len : Nat) (A : Nat → Option Addr) (L C : Nat → Nat) : Prop := ∀ i, i < len → ∃ x, a = some x ∧ w.cell? (x.add i) = some (.slice (A i) (L i) (C i)) ∧ L i ≤ 9223372036854775807
theorem big0 (a0 : Option Addr) (len0 cap0 : Nat) (a1 : Option Addr) (len1 cap1 : Nat) (a2 : Option Addr) (len2 cap2 : Nat) (A2 : Nat → Option Addr) (L2 C2 : Nat → Nat) (a3 : Option Addr) (len3 cap3 : Nat) (A3 : Nat → Option Addr) (L3 C3 : Nat → Nat) (loc hl : Int) (w : World)
    (l0 : len0 ≤ 9223372036854775807) (l1 : len1 ≤ 9223372036854775807) (l2 : len2 ≤ 9223372036854775807) (l3 : len3 ≤ 9223372036854775807) (k2 : RowsOk w a2 len2 A2 L2 C2) (k3 : RowsOk w a3 len3 A3 L3 C3) (g0 : 262144 < len0) :
    Calls Tryd.prog 3 #[.slice a0 len0 cap0, .slice a1 len1 cap1, .slice a2 len2 cap2, .slice a3 len3 cap3, .int .i32 loc, .int .i32 hl] w fun e w' => e = .returned (.bool true) ∧ Below w.heap.size w w' := by
  go_enter Tryd.func3, Tryd.ntmps3
  go_wp2_with fail
  refine (zz4 _ _ _ _ _ _ _ _ _ _ _ _ A2 A3 L2 C2 L3 C3 _ _ _ l0 l1 l2 l3 k2 k3).mono ?_
  rintro e w1 ⟨b, rfl, rfl⟩
  cases b
  · go_wp2_with fail
    go_ret
    exact ⟨rfl, Below.refl _ _⟩
  · go_wp2_with fail
    go_ret
    exact ⟨rfl, Below.refl _ _⟩
theorem big1 (a0 : Option Addr) (len0 cap0 : Nat) (a1 : Option Addr) (len1 cap1 : Nat) (a2 : Option Addr) (len2 cap2 : Nat) (A2 : Nat → Option Addr) (L2 C2 : Nat → Nat) (a3 : Option Addr) (len3 cap3 : Nat) (A3 : Nat → Option Addr) (L3 C3 : Nat → Nat) (loc hl : Int) (w : World)
    (l0 : len0 ≤ 9223372036854775807) (l1 : len1 ≤ 9223372036854775807) (l2 : len2 ≤ 9223372036854775807) (l3 : len3 ≤ 9223372036854775807) (k2 : RowsOk w a2 len2 A2 L2 C2) (k3 : RowsOk w a3 len3 A3 L3 C3) (g0 : ¬ 262144 < len0) (g1 : 4096 < len1) :
    Calls Tryd.prog 3 #[.slice a0 len0 cap0, .slice a1 len1 cap1, .slice a2 len2 cap2, .slice a3 len3 cap3, .int .i32 loc, .int .i32 hl] w fun e w' => e = .returned (.bool true) ∧ Below w.heap.size w w' := by
  go_enter Tryd.func3, Tryd.ntmps3
  go_wp2_with fail
  refine (zz4 _ _ _ _ _ _ _ _ _ _ _ _ A2 A3 L2 C2 L3 C3 _ _ _ l0 l1 l2 l3 k2 k3).mono ?_
  rintro e w1 ⟨b, rfl, rfl⟩
  cases b
  · go_wp2_with fail
    go_ret
    exact ⟨rfl, Below.refl _ _⟩
  · go_wp2_with fail
    go_ret
    exact ⟨rfl, Below.refl _ _⟩
theorem big2 (a0 : Option Addr) (len0 cap0 : Nat) (a1 : Option Addr) (len1 cap1 : Nat) (a2 : Option Addr) (len2 cap2 : Nat) (A2 : Nat → Option Addr) (L2 C2 : Nat → Nat) (a3 : Option Addr) (len3 cap3 : Nat) (A3 : Nat → Option Addr) (L3 C3 : Nat → Nat) (loc hl : Int) (w : World)
    (l0 : len0 ≤ 9223372036854775807) (l1 : len1 ≤ 9223372036854775807) (l2 : len2 ≤ 9223372036854775807) (l3 : len3 ≤ 9223372036854775807) (k2 : RowsOk w a2 len2 A2 L2 C2) (k3 : RowsOk w a3 len3 A3 L3 C3) (g0 : ¬ 262144 < len0) (g1 : ¬ 4096 < len1) (g2 : 4096 < len2) :
    Calls Tryd.prog 3 #[.slice a0 len0 cap0, .slice a1 len1 cap1, .slice a2 len2 cap2, .slice a3 len3 cap3, .int .i32 loc, .int .i32 hl] w fun e w' => e = .returned (.bool true) ∧ Below w.heap.size w w' := by
  go_enter Tryd.func3, Tryd.ntmps3
  go_wp2_with fail
  refine (zz4 _ _ _ _ _ _ _ _ _ _ _ _ A2 A3 L2 C2 L3 C3 _ _ _ l0 l1 l2 l3 k2 k3).mono ?_
  rintro e w1 ⟨b, rfl, rfl⟩
  cases b
  · go_wp2_with fail
    go_ret
    exact ⟨rfl, Below.refl _ _⟩
  · go_wp2_with fail
    go_ret
    exact ⟨rfl, Below.refl _ _⟩
theorem big3 (a0 : Option Addr) (len0 cap0 : Nat) (a1 : Option Addr) (len1 cap1 : Nat) (a2 : Option Addr) (len2 cap2 : Nat) (A2 : Nat → Option Addr) (L2 C2 : Nat → Nat) (a3 : Option Addr) (len3 cap3 : Nat) (A3 : Nat → Option Addr) (L3 C3 : Nat → Nat) (loc hl : Int) (w : World)
    (l0 : len0 ≤ 9223372036854775807) (l1 : len1 ≤ 9223372036854775807) (l2 : len2 ≤ 9223372036854775807) (l3 : len3 ≤ 9223372036854775807) (k2 : RowsOk w a2 len2 A2 L2 C2) (k3 : RowsOk w a3 len3 A3 L3 C3) (g0 : ¬ 262144 < len0) (g1 : ¬ 4096 < len1) (g2 : ¬ 4096 < len2) (g3 : 4096 < len3) :
    Calls Tryd.prog 3 #[.slice a0 len0 cap0, .slice a1 len1 cap1, .slice a2 len2 cap2, .slice a3 len3 cap3, .int .i32 loc, .int .i32 hl] w fun e w' => e = .returned (.bool true) ∧ Below w.heap.size w w' := by
  go_enter Tryd.func3, Tryd.ntmps3
  go_wp2_with fail
  refine (zz4 _ _ _ _ _ _ _ _ _ _ _ _ A2 A3 L2 C2 L3 C3 _ _ _ l0 l1 l2 l3 k2 k3).mono ?_
  rintro e w1 ⟨b, rfl, rfl⟩
  cases b
  · go_wp2_with fail
    go_ret
    exact ⟨rfl, Below.refl _ _⟩
  · go_wp2_with fail
    go_ret
    exact ⟨rfl, Below.refl _ _⟩
theorem sl16_of {w : World} {a : Option Addr} {len cap : Nat} {zs : List Int} (h : IsRow .u16 w a len cap zs) : Sl16 w a len cap := by
  rcases h with ⟨h1, h2, h3, _⟩ | ⟨x, h1, h2, h3, h4, h5, _⟩
  · exact .inl ⟨h1, h2, h3⟩
  · exact .inr ⟨x, fun i => zs.getD i 0, h1, fun i hi => h5 i (by omega)⟩
theorem walk (a0 : Option Addr) (len0 cap0 : Nat) (z0 : List Int) (a1 : Option Addr) (len1 cap1 : Nat) (z1 : Nat → Bool) (a2 : Option Addr) (len2 cap2 : Nat) (A2 : Nat → Option Addr) (L2 C2 : Nat → Nat) (z2 : Nat → List Int) (a3 : Option Addr) (len3 cap3 : Nat) (A3 : Nat → Option Addr) (L3 C3 : Nat → Nat) (z3 : Nat → List Int) (loc hl : Int) (w : World)
    (w0 : IsRow .u16 w a0 len0 cap0 z0) (w1 : IsBools w a1 len1 cap1 z1) (w2 : IsRows .u16 w a2 len2 cap2 A2 L2 C2 z2) (w3 : IsRows .u16 w a3 len3 cap3 A3 L3 C3 z3) :
    Calls Tryd.prog 3 #[.slice a0 len0 cap0, .slice a1 len1 cap1, .slice a2 len2 cap2, .slice a3 len3 cap3, .int .i32 loc, .int .i32 hl] w fun e w' => e = .returned (.bool true) ∧ Below w.heap.size w w' := by
  have l0 : len0 ≤ 9223372036854775807 := by
    rcases w0 with ⟨_, rfl, _⟩ | ⟨_, _, h1, h2, _⟩
    · omega
    · unfold maxLen at h2; omega
  have l1 : len1 ≤ 9223372036854775807 := by
    rcases w1 with ⟨_, rfl, _⟩ | ⟨_, _, h1, h2, _⟩
    · omega
    · unfold maxLen at h2; omega
  have l2 : len2 ≤ 9223372036854775807 := by
    rcases w2 with ⟨_, rfl, _⟩ | ⟨_, _, h1, h2, _⟩
    · omega
    · unfold maxLen at h2; omega
  have l3 : len3 ≤ 9223372036854775807 := by
    rcases w3 with ⟨_, rfl, _⟩ | ⟨_, _, h1, h2, _⟩
    · omega
    · unfold maxLen at h2; omega
  by_cases g0 : 262144 < len0
  · exact big0 a0 len0 cap0 a1 len1 cap1 a2 len2 cap2 A2 L2 C2 a3 len3 cap3 A3 L3 C3 loc hl w l0 l1 l2 l3 (rowsCells w2) (rowsCells w3) g0
  by_cases g1 : 4096 < len1
  · exact big1 a0 len0 cap0 a1 len1 cap1 a2 len2 cap2 A2 L2 C2 a3 len3 cap3 A3 L3 C3 loc hl w l0 l1 l2 l3 (rowsCells w2) (rowsCells w3) g0 g1
  by_cases g2 : 4096 < len2
  · exact big2 a0 len0 cap0 a1 len1 cap1 a2 len2 cap2 A2 L2 C2 a3 len3 cap3 A3 L3 C3 loc hl w l0 l1 l2 l3 (rowsCells w2) (rowsCells w3) g0 g1 g2
  by_cases g3 : 4096 < len3
  · exact big3 a0 len0 cap0 a1 len1 cap1 a2 len2 cap2 A2 L2 C2 a3 len3 cap3 A3 L3 C3 loc hl w l0 l1 l2 l3 (rowsCells w2) (rowsCells w3) g0 g1 g2 g3
  exact main a0 len0 cap0 a1 len1 cap1 z1 a2 len2 cap2 A2 L2 C2 z2 a3 len3 cap3 A3 L3 C3 z3 loc hl w (sl16_of w0) w1 w2 w3 (by omega) (by omega) (by omega) (by omega)

end Go.Proofs.YtkncfhhiookgdacDoor.fnInlinePrimitivesIntoTemplateIsIdempotent
