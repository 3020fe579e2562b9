import Derived.Test.YtidicogmfpfibabFmtKit
import Derived.Deep.MidRow
import Derived.Shelf.Unicode.DecodeAny
import Derived.Shelf.Unicode.DecodeLastEight
import Derived.Lib.RuneCount
import Derived.Test.YtidicogmfpfibabFmtRec
namespace Go.Proofs.YtidicogmfpfibabFmt
open Go.ChangeShapes Go.WideShapes Go.ChangeAt Go.RowKit
set_option linter.unusedVariables false
set_option maxRecDepth 100000
set_option maxHeartbeats 2000000

/-- Cells of a row, each by its place. -/
def At (cs : Array Value) (L : List (Nat × Value)) : Prop := ∀ q ∈ L, cs[q.1]? = some q.2
theorem At.get {cs : Array Value} {L : List (Nat × Value)} (h : At cs L) (j : Nat) {i : Nat} {v : Value} (hj : L[j]? = some (i, v)) : cs[i]? = some v := h (i, v) (List.mem_of_getElem? hj)
theorem At.set {cs : Array Value} {L : List (Nat × Value)} (h : At cs L) (i : Nat) (v : Value) (hi : (L.all fun q => q.1 != i) = true) : At (cs.setIfInBounds i v) L := fun q hq => by
  have hne : q.1 ≠ i := by simpa using List.all_eq_true.1 hi q hq
  rw [Array.getElem?_setIfInBounds_ne (Ne.symm hne)]
  exact h q hq
theorem set_same {cs : Array Value} {i : Nat} {v : Value} (h : cs[i]? = some v) : cs.setIfInBounds i v = cs := by
  apply Array.ext_getElem?
  intro j
  by_cases hj : i = j
  · subst hj
    obtain ⟨hi, _⟩ := Array.getElem?_eq_some_iff.1 h
    rw [Array.getElem?_setIfInBounds_self_of_lt hi, h]
  · rw [Array.getElem?_setIfInBounds_ne hj]
/-- All rows but one stay. -/
def Fp (p : Nat) (w w' : World) : Prop := ∀ g cs t, g ≠ p → RowAt w g cs t → RowAt w' g cs t
theorem Fp.refl (p : Nat) (w : World) : Fp p w w := fun _ _ _ _ h => h
theorem Fp.trans {p : Nat} {a b c : World} (h : Fp p a b) (k : Fp p b c) : Fp p a c := fun g cs t hg r => k g cs t hg (h g cs t hg r)
theorem Fp.below {p : Nat} {w w' : World} (h : Below w.heap.size w w') : Fp p w w' := fun _ _ _ _ r => r.below h r.lt
theorem Fp.set (p : Nat) (w : World) (o : Nat) (v : Value) : Fp p w (w.setCell ⟨p, o, none⟩ v) := fun _ _ _ hg r => r.set_other hg o v
/-- The cells of a tracker over the text s: its place, its line, that line's start, its end, whether the end is known. -/
def tkL (o : Nat) (s : ByteArray) (off L ls le : Nat) (b : Bool) : List (Nat × Value) := [(o, .string s), (o + 3, .int .i32 off), (o + 4, .int .i32 L), (o + 5, .int .i32 ls), (o + 6, .int .i32 le), (o + 7, .bool true), (o + 8, .bool b), (o + 9, .bool true)]
/-- Outside of the tracker's own numbers a row is as it was. -/
def Agree (cs0 cs : Array Value) (o : Nat) : Prop := ∀ j, j < o + 3 ∨ o + 9 ≤ j → cs[j]? = cs0[j]?
theorem Agree.refl (cs : Array Value) (o : Nat) : Agree cs cs o := fun _ _ => rfl
theorem Agree.set {cs0 cs : Array Value} {o : Nat} (h : Agree cs0 cs o) (k : Nat) (hk : o + 3 ≤ k ∧ k < o + 9) (v : Value) : Agree cs0 (cs.setIfInBounds k v) o := fun j hj => by
  rw [Array.getElem?_setIfInBounds_ne (by omega)]
  exact h j hj
theorem set_self {cs : Array Value} {i : Nat} {u : Value} (h : cs[i]? = some u) (v : Value) : (cs.setIfInBounds i v)[i]? = some v := by
  obtain ⟨hi, _⟩ := Array.getElem?_eq_some_iff.1 h
  rw [Array.getElem?_setIfInBounds_self_of_lt hi]
theorem tk_off {cs : Array Value} {o : Nat} {s : ByteArray} {off L ls le : Nat} {b : Bool} (h : At cs (tkL o s off L ls le b)) (off' : Nat) : At (cs.setIfInBounds (o + 3) (.int .i32 off')) (tkL o s off' L ls le b) := by
  intro q hq
  simp only [tkL, List.mem_cons, List.not_mem_nil, or_false] at hq
  rcases hq with rfl | rfl | rfl | rfl | rfl | rfl | rfl | rfl
  · exact (Array.getElem?_setIfInBounds_ne (by omega)).trans (h.get 0 rfl)
  · exact set_self (h.get 1 rfl) _
  · exact (Array.getElem?_setIfInBounds_ne (by omega)).trans (h.get 2 rfl)
  · exact (Array.getElem?_setIfInBounds_ne (by omega)).trans (h.get 3 rfl)
  · exact (Array.getElem?_setIfInBounds_ne (by omega)).trans (h.get 4 rfl)
  · exact (Array.getElem?_setIfInBounds_ne (by omega)).trans (h.get 5 rfl)
  · exact (Array.getElem?_setIfInBounds_ne (by omega)).trans (h.get 6 rfl)
  · exact (Array.getElem?_setIfInBounds_ne (by omega)).trans (h.get 7 rfl)
theorem tk_line {cs : Array Value} {o : Nat} {s : ByteArray} {off L ls le : Nat} {b : Bool} (h : At cs (tkL o s off L ls le b)) (L' : Nat) : At (cs.setIfInBounds (o + 4) (.int .i32 L')) (tkL o s off L' ls le b) := by
  intro q hq
  simp only [tkL, List.mem_cons, List.not_mem_nil, or_false] at hq
  rcases hq with rfl | rfl | rfl | rfl | rfl | rfl | rfl | rfl
  · exact (Array.getElem?_setIfInBounds_ne (by omega)).trans (h.get 0 rfl)
  · exact (Array.getElem?_setIfInBounds_ne (by omega)).trans (h.get 1 rfl)
  · exact set_self (h.get 2 rfl) _
  · exact (Array.getElem?_setIfInBounds_ne (by omega)).trans (h.get 3 rfl)
  · exact (Array.getElem?_setIfInBounds_ne (by omega)).trans (h.get 4 rfl)
  · exact (Array.getElem?_setIfInBounds_ne (by omega)).trans (h.get 5 rfl)
  · exact (Array.getElem?_setIfInBounds_ne (by omega)).trans (h.get 6 rfl)
  · exact (Array.getElem?_setIfInBounds_ne (by omega)).trans (h.get 7 rfl)
theorem tk_start {cs : Array Value} {o : Nat} {s : ByteArray} {off L ls le : Nat} {b : Bool} (h : At cs (tkL o s off L ls le b)) (ls' : Nat) : At (cs.setIfInBounds (o + 5) (.int .i32 ls')) (tkL o s off L ls' le b) := by
  intro q hq
  simp only [tkL, List.mem_cons, List.not_mem_nil, or_false] at hq
  rcases hq with rfl | rfl | rfl | rfl | rfl | rfl | rfl | rfl
  · exact (Array.getElem?_setIfInBounds_ne (by omega)).trans (h.get 0 rfl)
  · exact (Array.getElem?_setIfInBounds_ne (by omega)).trans (h.get 1 rfl)
  · exact (Array.getElem?_setIfInBounds_ne (by omega)).trans (h.get 2 rfl)
  · exact set_self (h.get 3 rfl) _
  · exact (Array.getElem?_setIfInBounds_ne (by omega)).trans (h.get 4 rfl)
  · exact (Array.getElem?_setIfInBounds_ne (by omega)).trans (h.get 5 rfl)
  · exact (Array.getElem?_setIfInBounds_ne (by omega)).trans (h.get 6 rfl)
  · exact (Array.getElem?_setIfInBounds_ne (by omega)).trans (h.get 7 rfl)
theorem tk_end {cs : Array Value} {o : Nat} {s : ByteArray} {off L ls le : Nat} {b : Bool} (h : At cs (tkL o s off L ls le b)) (le' : Nat) : At ((cs.setIfInBounds (o + 8) (.bool true)).setIfInBounds (o + 6) (.int .i32 le')) (tkL o s off L ls le' true) := by
  intro q hq
  simp only [tkL, List.mem_cons, List.not_mem_nil, or_false] at hq
  rcases hq with rfl | rfl | rfl | rfl | rfl | rfl | rfl | rfl
  · exact (Array.getElem?_setIfInBounds_ne (by omega)).trans ((Array.getElem?_setIfInBounds_ne (by omega)).trans (h.get 0 rfl))
  · exact (Array.getElem?_setIfInBounds_ne (by omega)).trans ((Array.getElem?_setIfInBounds_ne (by omega)).trans (h.get 1 rfl))
  · exact (Array.getElem?_setIfInBounds_ne (by omega)).trans ((Array.getElem?_setIfInBounds_ne (by omega)).trans (h.get 2 rfl))
  · exact (Array.getElem?_setIfInBounds_ne (by omega)).trans ((Array.getElem?_setIfInBounds_ne (by omega)).trans (h.get 3 rfl))
  · exact set_self ((Array.getElem?_setIfInBounds_ne (by omega)).trans (h.get 4 rfl)) _
  · exact (Array.getElem?_setIfInBounds_ne (by omega)).trans ((Array.getElem?_setIfInBounds_ne (by omega)).trans (h.get 5 rfl))
  · exact (Array.getElem?_setIfInBounds_ne (by omega)).trans (set_self (h.get 6 rfl) _)
  · exact (Array.getElem?_setIfInBounds_ne (by omega)).trans ((Array.getElem?_setIfInBounds_ne (by omega)).trans (h.get 7 rfl))
/-- The library's tables for decoding, below B. -/
def TB (B : Nat) (W : World) : Prop := Lib.Utf8Tabs 0 1 W ∧ 1 < B
theorem TB.below {B : Nat} {W W' : World} (h : TB B W) (hb : Below B W W') : TB B W' := by
  have h0 : (0 : Nat) < B := by have := h.2; omega
  have h1 : (1 : Nat) < B := h.2
  exact ⟨⟨fun c hc => (hb.cell (p := ⟨0, c, none⟩) h0).trans (h.1.1 c hc), fun c hc => ⟨(hb.cell (p := ⟨1, 2 * c, none⟩) h1).trans (h.1.2 c hc).1, (hb.cell (p := ⟨1, 2 * c + 1, none⟩) h1).trans (h.1.2 c hc).2⟩⟩, h.2⟩
theorem dec_size (s : ByteArray) (i : Nat) (hi : i < s.size) : 1 ≤ (Lib.decodeGo (s.extract i s.size)).2 ∧ i + (Lib.decodeGo (s.extract i s.size)).2 ≤ s.size := by
  have h1 : (s.extract i s.size).size = s.size - i := by simp
  have h2 := Lib.decodeGo_le_size (s.extract i s.size)
  refine ⟨?_, by omega⟩
  unfold Lib.decodeGo
  rw [if_neg (by omega)]
  exact Lib.decode_width_pos _ 0 (by omega)

end Go.Proofs.YtidicogmfpfibabFmt
