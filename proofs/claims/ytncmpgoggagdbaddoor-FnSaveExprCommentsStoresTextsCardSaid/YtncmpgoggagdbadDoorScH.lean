import Derived.Test.YtncmpgoggagdbadDoorKit
import Derived.Test.YtncmpgoggagdbadDoorScG
namespace Go.Proofs.YtncmpgoggagdbadDoor
open Go.ChangeShapes Go.WideShapes Go.ChangeAt Go.RowKit
set_option linter.unusedVariables false
set_option maxRecDepth 100000
set_option maxHeartbeats 2000000

def Po (w : World) (e : Ending) (w' : World) : Prop := e = .returned (.bool true) ∧ Below w.heap.size w w'
theorem big0 (S : ByteArray) (a1 a2 : Option Addr) (n1 c1 n2 c2 : Nat) (b3 b4 : Bool) (w : World) (hS : S.size ≤ 9223372036854775807) (h1 : n1 ≤ 9223372036854775807) (h2 : n2 ≤ 9223372036854775807) (hb : 65536 < S.size ∨ 4096 < n1 ∨ 4096 < n2) :
    Calls Tryd.prog 3 #[.string S, .slice a1 n1 c1, .slice a2 n2 c2, .bool b3, .bool b4] w (Po w) := by
  have H := Lib.hid (zz4 S a1 a2 n1 c1 n2 c2 b3 b4 w hS h1 h2)
  have hx : (65536 < S.size) ∨ (S.size ≤ 65536 ∧ 4096 < n1) ∨ (S.size ≤ 65536 ∧ n1 ≤ 4096 ∧ 4096 < n2) := by omega
  clear hb
  rcases hx with g | ⟨g, g1⟩ | ⟨g, g1, g2⟩ <;> as_aux_lemma =>
    go_enter Tryd.func3, Tryd.ntmps3
    go_wp2_with fail
    refine H.out.mono ?_
    rintro e w' ⟨q, rfl, hq, rfl⟩
    cases q
    · clear hq
      go_wp2_with fail
      go_ret
      exact ⟨rfl, Below.refl _ _⟩
    · have hq := hq rfl
      go_wp2_with fail
      go_ret
      exact ⟨rfl, Below.refl _ _⟩
set_option maxHeartbeats 4000000 in
theorem mainN (S : ByteArray) (a1 a2 : Option Addr) (n1 c1 n2 c2 : Nat) (z1 z2 : Nat → Int) (b4 : Bool) (w : World) (hS : S.size ≤ 65536) (h1 : n1 ≤ 4096) (h2 : n2 ≤ 4096) (i1 : I32s w a1 n1 z1) (i2 : I32s w a2 n2 z2) :
    Calls Tryd.prog 3 #[.string S, .slice a1 n1 c1, .slice a2 n2 c2, .bool false, .bool b4] w (Po w) := by
  have H := Lib.hid (zz4 S a1 a2 n1 c1 n2 c2 false b4 w (by omega) (by omega) (by omega))
  have HR := Lib.hid (ranges5 S a1 a2 n1 c1 n2 c2 z1 z2 w hS h1 i1 i2)
  have heq := fun (W : World) (r : Option Nat) => run_eql_map_nil W 29 28 30 r Tryd.underlying29
  clear i1 i2
  go_enter Tryd.func3, Tryd.ntmps3
  go_wp2_with fail
  refine H.out.mono ?_
  clear H
  rintro e w' ⟨q, rfl, hq, rfl⟩
  cases q
  · as_aux_lemma =>
    clear hq HR
    go_wp2_with fail
    go_ret
    exact ⟨rfl, Below.refl _ _⟩
  · as_aux_lemma =>
    clear hq
    go_wp2_with fail
    refine HR.out.mono ?_
    clear HR
    rintro e w1 ⟨hb, ⟨v, rfl⟩ | ⟨s, l, rfl, hu⟩⟩
    · as_aux_lemma =>
      have HB := Lib.hid hb
      clear hb
      go_wp2_with fail
      go_ret
      exact ⟨rfl, HB.out⟩
    · as_aux_lemma =>
      have HB := Lib.hid hb
      have HU := Lib.hid hu
      clear hb hu
      go_wp2_with fail
      refine (new6 S none _ n1 n1 _).mono ?_
      rintro e w3 ⟨p, rfl, hps, hb3, _⟩
      have HPS := Lib.hid hps
      have B3 := Lib.hid (((HB.out.alloc HB.out.size (.cells #[.int .i32 0] 28)).alloc (by have := HB.out.size; simp; omega) (.cells #[.int .i32 7] 28)).trans (hb3.mono (by have := HB.out.size; simp; omega)))
      clear hps hb3
      go_wp2_with fail
      refine (call7N p _ (save9_nil p S _ _ (HPS.out.alloc _))).mono ?_
      rintro e w4 ⟨rfl, hb4⟩
      have HP4 := Lib.hid ((HPS.out.below hb4 HPS.out.lt).alloc (.cells #[.int .i32 0] 28))
      have B4 := Lib.hid (B3.out.trans (hb4.mono B3.out.size))
      clear hb4
      go_wp2_with fail
      refine (expr8 p S none _ _ HP4.out).mono ?_
      rintro e w5 ⟨rfl, rfl⟩
      go_wp2_with fail
      go_ret
      exact ⟨rfl, B4.out.alloc B4.out.size _⟩

end Go.Proofs.YtncmpgoggagdbadDoor
