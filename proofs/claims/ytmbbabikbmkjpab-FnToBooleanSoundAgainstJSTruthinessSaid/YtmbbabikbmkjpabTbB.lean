import Derived.Test.YtmbbabikbmkjpabKit
import Derived.Test.YtmbbabikbmkjpabTbA
namespace Go.Proofs.Ytmbbabikbmkjpab.fnToBooleanSoundAgainstJSTruthiness
open Go.ChangeShapes Go.WideShapes Go.ChangeAt Go.RowKit
set_option linter.unusedVariables false
set_option maxRecDepth 100000
set_option maxHeartbeats 2000000

section
variable {w : World} {u U v : Nat} {l : Int} {t : Int}
theorem not_node (h0 : w.cell? ⟨u, 0, none⟩ = some (.iface U (.pointer (some ⟨v, 0, none⟩)))) (h2 : w.cell? ⟨u, 2, none⟩ = some (.int .u8 3)) (hi : Calls Try.prog 10 #[.iface U (.pointer (some ⟨v, 0, none⟩))] w (TB t w)) :
    Calls Try.prog 10 #[.iface 68 (.pointer (some ⟨u, 0, none⟩))] w (TB (tNot t) w) := by
  have HI := Lib.hid hi
  clear hi
  go_enter Try.func10, Try.ntmps10
  go_wp2_with fail
  refine HI.out.mono ?_
  rintro e w1 ⟨b, s, ok, rfl, rfl, ht⟩
  cases ok
  · clear ht
    go_wp2_with fail
    go_ret3
    exact ⟨_, _, _, rfl, rfl, fun h => by cases h⟩
  · cases b
    · obtain rfl : t = 0 := by simpa using ht rfl
      clear ht
      go_wp2_with fail
      go_ret3
      exact ⟨_, _, _, rfl, rfl, fun _ => by first | rfl | simp [tNot, tOr, tAnd]⟩
    · obtain rfl : t = 1 := by simpa using ht rfl
      clear ht
      go_wp2_with fail
      go_ret3
      exact ⟨_, _, _, rfl, rfl, fun _ => by first | rfl | simp [tNot, tOr, tAnd]⟩
theorem void_node (h2 : w.cell? ⟨u, 2, none⟩ = some (.int .u8 4)) : Calls Try.prog 10 #[.iface 68 (.pointer (some ⟨u, 0, none⟩))] w (TB 0 w) := by
  go_enter Try.func10, Try.ntmps10
  go_wp2_with fail
  go_ret3
  exact ⟨_, _, _, rfl, rfl, fun _ => rfl⟩
theorem typeof_node (b : Bool) (h2 : w.cell? ⟨u, 2, none⟩ = some (.int .u8 5)) (h3 : w.cell? ⟨u, 3, none⟩ = some (.bool b)) : Calls Try.prog 10 #[.iface 68 (.pointer (some ⟨u, 0, none⟩))] w (TB 1 w) := by
  cases b
  · go_enter Try.func10, Try.ntmps10
    go_wp2_with fail
    go_ret3
    exact ⟨_, _, _, rfl, rfl, fun _ => rfl⟩
  · go_enter Try.func10, Try.ntmps10
    go_wp2_with fail
    go_ret3
    exact ⟨_, _, _, rfl, rfl, fun _ => rfl⟩
theorem enum_node (h0 : w.cell? ⟨u, 0, none⟩ = some (.iface U (.pointer (some ⟨v, 0, none⟩)))) (hi : Calls Try.prog 10 #[.iface U (.pointer (some ⟨v, 0, none⟩))] w (TB t w)) :
    Calls Try.prog 10 #[.iface 77 (.pointer (some ⟨u, 0, none⟩))] w (TB t w) := by
  have HI := Lib.hid hi
  clear hi
  go_enter Try.func10, Try.ntmps10
  go_wp2_with fail
  refine HI.out.mono ?_
  rintro e w1 ⟨b, s, ok, rfl, rfl, ht⟩
  have HT := Lib.hid ht
  clear ht
  go_wp2_with fail
  go_ret3
  exact ⟨_, _, _, rfl, rfl, HT.out⟩
theorem has18 (x : Int) (B : Bool) (w : World) (h : x = 0 ∧ B = false ∨ x = 1 ∧ B = true) : Calls Try.prog 18 #[.int .u8 x, .int .u8 1] w fun e w' => e = .returned (.bool B) ∧ w = w' := by
  rcases h with ⟨rfl, rfl⟩ | ⟨rfl, rfl⟩
  · go_enter Try.func18, Try.ntmps18
    go_wp2
    go_ret
    exact ⟨rfl, rfl⟩
  · go_enter Try.func18, Try.ntmps18
    go_wp2
    go_ret
    exact ⟨rfl, rfl⟩
theorem ann_node (x : Int) (B : Bool) (hx : x = 0 ∧ B = false ∨ x = 1 ∧ B = true) (h0 : w.cell? ⟨u, 0, none⟩ = some (.iface U (.pointer (some ⟨v, 0, none⟩)))) (h2 : w.cell? ⟨u, 2, none⟩ = some (.int .u8 x)) (hi : Calls Try.prog 10 #[.iface U (.pointer (some ⟨v, 0, none⟩))] w (TB t w)) :
    Calls Try.prog 10 #[.iface 73 (.pointer (some ⟨u, 0, none⟩))] w (TB t w) := by
  have HI := Lib.hid hi
  have HX := Lib.hid hx
  clear hi hx
  go_enter Try.func10, Try.ntmps10
  go_wp2_with fail
  refine HI.out.mono ?_
  rintro e w1 ⟨b, s, ok, rfl, rfl, ht⟩
  have HT := Lib.hid ht
  clear ht
  go_wp2_with fail
  refine (has18 x B _ HX.out).mono ?_
  rintro e w1 ⟨rfl, rfl⟩
  cases B
  · go_wp2_with fail
    go_ret3
    exact ⟨_, _, _, rfl, rfl, HT.out⟩
  · go_wp2_with fail
    go_ret3
    exact ⟨_, _, _, rfl, rfl, HT.out⟩
theorem or_node (ta : Int) (h2 : w.cell? ⟨u, 2, none⟩ = some (.iface U (.pointer (some ⟨v, 0, none⟩)))) (h4 : w.cell? ⟨u, 4, none⟩ = some (.int .u8 31)) (hi : Calls Try.prog 10 #[.iface U (.pointer (some ⟨v, 0, none⟩))] w (TB t w)) :
    Calls Try.prog 10 #[.iface 81 (.pointer (some ⟨u, 0, none⟩))] w (TB (tOr ta t) w) := by
  have HI := Lib.hid hi
  clear hi
  go_enter Try.func10, Try.ntmps10
  go_wp2_with fail
  refine HI.out.mono ?_
  rintro e w1 ⟨b, s, ok, rfl, rfl, ht⟩
  cases ok
  · clear ht
    go_wp2_with fail
    go_ret3
    exact ⟨_, _, _, rfl, rfl, fun h => by cases h⟩
  · cases b
    · obtain rfl : t = 0 := by simpa using ht rfl
      clear ht
      go_wp2_with fail
      go_ret3
      exact ⟨_, _, _, rfl, rfl, fun h => by cases h⟩
    · obtain rfl : t = 1 := by simpa using ht rfl
      clear ht
      go_wp2_with fail
      go_ret3
      exact ⟨_, _, _, rfl, rfl, fun _ => by first | rfl | simp [tNot, tOr, tAnd]⟩
theorem and_node (ta : Int) (h2 : w.cell? ⟨u, 2, none⟩ = some (.iface U (.pointer (some ⟨v, 0, none⟩)))) (h4 : w.cell? ⟨u, 4, none⟩ = some (.int .u8 32)) (hi : Calls Try.prog 10 #[.iface U (.pointer (some ⟨v, 0, none⟩))] w (TB t w)) :
    Calls Try.prog 10 #[.iface 81 (.pointer (some ⟨u, 0, none⟩))] w (TB (tAnd ta t) w) := by
  have HI := Lib.hid hi
  clear hi
  go_enter Try.func10, Try.ntmps10
  go_wp2_with fail
  refine HI.out.mono ?_
  rintro e w1 ⟨b, s, ok, rfl, rfl, ht⟩
  cases ok
  · clear ht
    go_wp2_with fail
    go_ret3
    exact ⟨_, _, _, rfl, rfl, fun h => by cases h⟩
  · cases b
    · obtain rfl : t = 0 := by simpa using ht rfl
      clear ht
      go_wp2_with fail
      go_ret3
      exact ⟨_, _, _, rfl, rfl, fun _ => by first | rfl | simp [tNot, tOr, tAnd]⟩
    · obtain rfl : t = 1 := by simpa using ht rfl
      clear ht
      go_wp2_with fail
      go_ret3
      exact ⟨_, _, _, rfl, rfl, fun h => by cases h⟩
theorem comma_node (h2 : w.cell? ⟨u, 2, none⟩ = some (.iface U (.pointer (some ⟨v, 0, none⟩)))) (h4 : w.cell? ⟨u, 4, none⟩ = some (.int .u8 36)) (hi : Calls Try.prog 10 #[.iface U (.pointer (some ⟨v, 0, none⟩))] w (TB t w)) :
    Calls Try.prog 10 #[.iface 81 (.pointer (some ⟨u, 0, none⟩))] w (TB t w) := by
  have HI := Lib.hid hi
  clear hi
  go_enter Try.func10, Try.ntmps10
  go_wp2_with fail
  refine HI.out.mono ?_
  rintro e w1 ⟨b, s, ok, rfl, rfl, ht⟩
  cases ok
  · clear ht
    go_wp2_with fail
    go_ret3
    exact ⟨_, _, _, rfl, rfl, fun h => by cases h⟩
  · have e1 := ht rfl
    have HT := Lib.hid e1
    clear ht e1
    go_wp2_with fail
    go_ret3
    exact ⟨_, _, _, rfl, rfl, fun _ => HT.out⟩
end

end Go.Proofs.Ytmbbabikbmkjpab.fnToBooleanSoundAgainstJSTruthiness
