import Derived.Test.YtncmpgoggagdbadDoorKit
import Derived.Test.YtncmpgoggagdbadDoorScJ
namespace Go.Proofs.YtncmpgoggagdbadDoor.fnSaveExprCommentsStoresTexts
open Go.ChangeShapes Go.WideShapes Go.ChangeAt Go.RowKit
set_option linter.unusedVariables false
set_option maxRecDepth 100000
set_option maxHeartbeats 2000000

theorem i32s {W : World} {a : Option Addr} {n c : Nat} {z : List Int} (h : IsRow .i32 W a n c z) : I32s W a n (fun i => z.getD i 0) ∧ n ≤ 9223372036854775807 := by
  rcases h with ⟨rfl, rfl, rfl, rfl⟩ | ⟨x, rfl, hl, hm, hz, hc, hw⟩
  · exact ⟨fun i hi => by omega, by omega⟩
  · refine ⟨fun i hi => ⟨x, rfl, hc i (by omega), ?_⟩, by unfold maxLen at hm; omega⟩
    have hmem : z.getD i 0 ∈ z := by
      rw [List.getD_eq_getElem?_getD, List.getElem?_eq_getElem (by omega)]
      exact List.getElem_mem _
    have hwf := hw _ hmem
    show -2147483648 ≤ z.getD i 0 ∧ z.getD i 0 ≤ 2147483647
    generalize z.getD i 0 = y at hwf
    have hmin : IntKind.i32.min = -2147483648 := by decide
    have hmax : IntKind.i32.max = 2147483647 := by decide
    simp [Lit.wf] at hwf
    omega
theorem walk (a0 : ByteArray) (a1 : Option Addr) (len1 cap1 : Nat) (z1 : List Int) (a2 : Option Addr) (len2 cap2 : Nat) (z2 : List Int) (a3 a4 : Bool) (W : World) (w0 : a0.size ≤ maxLen) (w1 : IsRow .i32 W a1 len1 cap1 z1) (w2 : IsRow .i32 W a2 len2 cap2 z2) :
    Calls Tryd.prog 3 #[.string a0, .slice a1 len1 cap1, .slice a2 len2 cap2, .bool a3, .bool a4] W fun e W' => e = .returned (.bool true) ∧ Below W.heap.size W W' := by
  obtain ⟨i1, l1⟩ := i32s w1
  obtain ⟨i2, l2⟩ := i32s w2
  have l0 : a0.size ≤ 9223372036854775807 := by unfold maxLen at w0; omega
  by_cases hb : 65536 < a0.size ∨ 4096 < len1 ∨ 4096 < len2
  · exact big0 a0 a1 a2 len1 cap1 len2 cap2 a3 a4 W l0 l1 l2 hb
  have g0 : a0.size ≤ 65536 := by omega
  have g1 : len1 ≤ 4096 := by omega
  have g2 : len2 ≤ 4096 := by omega
  cases a3
  · exact mainN a0 a1 a2 len1 cap1 len2 cap2 _ _ a4 W g0 g1 g2 i1 i2
  · by_cases hn : len1 = 0
    · cases a4
      · exact mainZ1 a0 a1 a2 len1 cap1 len2 cap2 _ _ W g0 g1 g2 hn i1 i2
      · exact mainZ2 a0 a1 a2 len1 cap1 len2 cap2 _ _ W g0 g1 g2 hn i1 i2
    · cases a4
      · exact mainP1 a0 a1 a2 len1 cap1 len2 cap2 _ _ W g0 g1 g2 (by omega) i1 i2
      · exact mainP2 a0 a1 a2 len1 cap1 len2 cap2 _ _ W g0 g1 g2 (by omega) i1 i2

end Go.Proofs.YtncmpgoggagdbadDoor.fnSaveExprCommentsStoresTexts
