import Derived.Test.YtfmfniddnlpkmaaDoorKit
import Derived.Test.YtfmfniddnlpkmaaDoorCuD
namespace Go.Proofs.YtfmfniddnlpkmaaDoor
open Go.ChangeShapes Go.WideShapes Go.ChangeAt Go.RowKit
set_option linter.unusedVariables false
set_option maxRecDepth 100000
set_option maxHeartbeats 2000000

theorem Fr.fresh {S R : Nat} {w w1 w' : World} (h : Fr (fun j => j = S ∨ j = R) w1 w') (hb : Below w.heap.size w w1) (hR : w.heap.size ≤ R) : Fr (XS S) w w' :=
  ⟨h.os.trans hb.os, h.tape.trans hb.tape, h.output.trans hb.output, Nat.le_trans hb.size h.size, fun j hj hx => (h.block j (Nat.lt_of_lt_of_le hj hb.size) (by rintro (e | e); exact hx e; omega)).trans (hb.block j hj)⟩

/-- The look's outcome at the counts. -/
def GotC (p S n k : Nat) (f : Nat → Int) (w : World) (e : Ending) (w' : World) : Prop := ∃ r a b : Bool, e = .returned (.tuple #[.bool r, .bool a, .bool b]) ∧
  St w' p S n (if r then updN f k ((f k - 1) % 4294967296) else f) ∧ Fr (XS S) w w'

theorem chk31 (p S n k R s : Nat) (was ex : Bool) (b t c : Nat) (a1 a2 : Bool) (f : Nat → Int) (w : World) (hn : n ≤ 65536) (hk : k < n) (hbn : b < n) (h : St w p S n f) (hs : SLoc w s was ex b t k c) (hR : RowAt w R #[.slice none 0 0, .bool a1, .bool a2] 230) (hI : IR w) (hS0 : 1 ≤ S) (hR0 : 1 ≤ R) :
    Calls Tryd.prog 31 #[.pointer (some ⟨p, 0, none⟩), .pointer (some ⟨s, 0, none⟩), .pointer (some ⟨R, 0, none⟩)] w (Chk p S n k R f w) := by
  cases was
  · exact early31 p S n k R s _ _ b t c a1 a2 f w h hs hR (.inl rfl)
  · cases ex
    · exact look31 p S n k R s b t c a1 a2 f w hn hk hbn h hs hR hI hS0 hR0
    · exact early31 p S n k R s _ _ b t c a1 a2 f w h hs hR (.inr rfl)

theorem call18 (p S n k s : Nat) (was ex : Bool) (b t c : Nat) (f : Nat → Int) (w : World) (hn : n ≤ 65536) (hk : k < n) (hbn : b < n) (h : St w p S n f) (hs : SLoc w s was ex b t k c) (hI : IR w) (hS0 : 1 ≤ S) :
    Calls Tryd.prog 18 #[.pointer (some ⟨p, 0, none⟩), .pointer (some ⟨s, 0, none⟩), .bool false, .bool false] w (GotC p S n k f w) := by
  have H := Lib.hid h
  have HSL := Lib.hid hs
  have HI := Lib.hid hI
  have zi : 1 ≤ w.heap.size := cell_lt hI.1
  clear h hs hI
  go_enter Tryd.func18, Tryd.ntmps18
  go_wp2_with fail
  have hb : Below w.heap.size w (w.alloc (.cells #[.slice none 0 0, .bool false, .bool false] 230)) := by go_grown
  refine (chk31 p S n k w.heap.size s was ex b t c false false f _ hn hk hbn (H.out.below hb) (HSL.out.later hb) (RowAt.new _ _ _) (HI.out.below hb) hS0 zi).mono ?_
  rintro e w1 ⟨r, rfl, ⟨a, b', hR⟩, hS, hF⟩
  have HS := Lib.hid hS
  have HF := Lib.hid (hF.fresh hb (Nat.le_refl _))
  have r1 := hR.cellv (j := 1) (v := .bool a) rfl
  have r2 := hR.cellv (j := 2) (v := .bool b') rfl
  have zR := hR.lt
  clear hS hF hb hR
  go_wp2_with fail
  go_quiet (fail)
  go_wp2_with fail
  exact bodyPost_ret (v := .tuple #[.bool r, .bool a, .bool b']) (by simp [results, Tryd.results18, go_sem]) rfl ⟨r, a, b', rfl, HS.out.later (fun j _ => rfl), HF.out.trans (Fr.of_below (below_drewN' (Below.refl _ _) _))⟩

end Go.Proofs.YtfmfniddnlpkmaaDoor
