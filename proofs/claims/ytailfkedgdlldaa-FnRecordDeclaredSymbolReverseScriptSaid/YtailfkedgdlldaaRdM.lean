import Derived.Test.YtailfkedgdlldaaKit
import Derived.Test.YtailfkedgdlldaaRdH
namespace Go.Proofs.Ytailfkedgdlldaa
open Go.ChangeShapes Go.WideShapes Go.ChangeAt Go.RowKit
set_option linter.unusedVariables false
set_option maxRecDepth 100000
set_option maxHeartbeats 2000000

theorem rec35 (p q S cur mod mm B k : Nat) (v : Value) (x : Fx) (L : List Nat) (w : World) (hs : Sc w S cur mod mm x) (hp : Pa w p q S cur mod B v x L) (hk : k < x.n) (hn : x.n ≤ 65537) (hL : L.length ≤ 65536) (hB : B ≤ w.heap.size) :
    Calls Try.prog 35 #[.pointer (some ⟨p, 0, none⟩), .agg #[.int .u32 1, .int .u32 k]] w (Recd w p q S cur mod mm B x (L ++ [k])) := by
  cases htop : x.top
  · cases hH : (x.kd k == 1 || x.kd k == 2)
    · exact rec_low_f p q S cur mod mm B k v x L w hs hp htop hH hk hn hL hB
    · cases h1 : (x.ma k == 1)
      · exact rec_low_ff p q S cur mod mm B k v x L w hs hp htop hH h1 hk hn hL hB
      · cases h2 : (x.mb k == (k : Int))
        · exact rec_low_tf p q S cur mod mm B k v x L w hs hp htop hH h1 h2 hk hn hL hB
        · exact rec_low_tt p q S cur mod mm B k v x L w hs hp htop hH h1 h2 hk hn hL hB
  · exact rec_top p q S cur mod mm B k v x L w hs hp htop hk hn hL hB

theorem rec27 (p q S cur mod mm B k : Nat) (v : Value) (x : Fx) (L : List Nat) (w : World) (hs : Sc w S cur mod mm x) (hp : Pa w p q S cur mod B v x L) (hk : k < x.n) (hn : x.n ≤ 65537) (hL : L.length ≤ 65536) (hB : B ≤ w.heap.size) :
    Calls Try.prog 27 #[.pointer (some ⟨p, 0, none⟩), .agg #[.int .u32 1, .int .u32 k]] w (Recd w p q S cur mod mm B x (L ++ [k])) := by
  have H := Lib.hid (rec35 p q S cur mod mm B k v x L (w.alloc (.cells #[.int .u32 1, .int .u32 k] 37)) (hs.later (by go_grown)) (hp.later (by go_grown)) hk hn hL (Nat.le_trans hB (by simp)))
  clear hs hp
  go_enter Try.func27, Try.ntmps27
  go_wp2_with fail
  refine H.out.mono ?_
  rintro e w1 ⟨rfl, h1, h2, h3⟩
  have H1 := Lib.hid h1
  have H2 := Lib.hid h2
  have H3 : Hid (Fr (RX q B) w w1) := (Fr.refl.alloc _).trans h3
  clear h1 h2 h3
  go_wp2_with fail
  go_end0
  exact ⟨rfl, H1.out, H2.out, H3.out⟩

/-- Some bool comes back; the world stands. -/
def SomeB (w : World) (e : Ending) (w' : World) : Prop := ∃ b, e = .returned (.bool b) ∧ w = w'

end Go.Proofs.Ytailfkedgdlldaa
