import Derived.Test.YtdikaidllmhbhabKit
import Derived.Test.YtdikaidllmhbhabSnF
namespace Go.Proofs.Ytdikaidllmhbhab.fnStoreNameScriptRoundTrip
open Go.ChangeShapes Go.WideShapes Go.ChangeAt Go.RowKit
set_option linter.unusedVariables false
set_option maxRecDepth 100000
set_option maxHeartbeats 2000000

/-- What a reference stands for. -/
def RefOK (ct : ByteArray) (L : List ByteArray) (r0 r1 : Int) (nm : ByteArray) : Prop :=
  (∃ m : Nat, r0 = 2147483648 ∧ r1 = m ∧ L[m]? = some nm) ∨ (∃ s n : Nat, 1 ≤ n ∧ n ≤ 1048576 ∧ s + n ≤ ct.size ∧ r0 = 4294967296 - (n : Int) ∧ r1 = s ∧ nm = ct.extract s (s + n))
theorem RefOK.snoc {ct : ByteArray} {L : List ByteArray} {r0 r1 : Int} {nm x : ByteArray} (h : RefOK ct L r0 r1 nm) : RefOK ct (L ++ [x]) r0 r1 nm := by
  rcases h with ⟨m, h1, h2, h3⟩ | h
  · exact .inl ⟨m, h1, h2, by rw [List.getElem?_append_left (List.getElem?_eq_some_iff.1 h3).1]; exact h3⟩
  · exact .inr h
theorem RefOK.new {ct : ByteArray} {L : List ByteArray} {nm : ByteArray} : RefOK ct (L ++ [nm]) 2147483648 (L.length : Int) nm := .inl ⟨L.length, rfl, rfl, by simp⟩
theorem RefOK.load {ct : ByteArray} {L : List ByteArray} {r0 r1 : Int} {nm : ByteArray} {B p : Nat} {w : World} (h : RefOK ct L r0 r1 nm) (hc : ct.size ≤ 1048576) (hL : L.length ≤ 1048576) (hp : PN w B p ct L) :
    Calls Try.prog 11 #[.pointer (some ⟨p, 0, none⟩), .agg #[.int .u32 r0, .int .u32 r1]] w fun e w' => e = .returned (.string nm) ∧ Below w.heap.size w w' := by
  refine load11 _ _ _ _ _ fun W hb => ?_
  rcases h with ⟨m, rfl, rfl, h3⟩ | ⟨s, n, h1, h2, h3, rfl, rfl, rfl⟩
  · exact load16A B p m ct nm L W h3 hL (hp.below hb)
  · exact load16F B p n s ct L W h1 h2 h3 hc (hp.below hb)

def up {α : Type} (f : Nat → α) (k : Nat) (x : α) : Nat → α := fun i => if i = k then x else f i
theorem up_same {α : Type} (f : Nat → α) (k : Nat) (x : α) : up f k x k = x := if_pos rfl
theorem up_other {α : Type} (f : Nat → α) {k i : Nat} (x : α) (h : i ≠ k) : up f k x i = f i := if_neg h

/-- What the storing keeps behind k rounds. -/
structure Sn (w4 wr : World) (B p RR RW n1 k : Nat) (ct : ByteArray) (L : List ByteArray) (r0 r1 : Nat → Int) (Wn : Nat → ByteArray) : Prop where
  pn : PN wr B p ct L
  rf : ∃ cs, RowAt wr RR cs 35 ∧ cs.size = n1 * 2 ∧ ∀ i, i < k → cs[i * 2]? = some (.int .u32 (r0 i)) ∧ cs[i * 2 + 1]? = some (.int .u32 (r1 i))
  wn : RowUpTo wr RW 9 n1 k (fun i => .string (Wn i))
  ok : ∀ i, i < k → RefOK ct L (r0 i) (r1 i) (Wn i)
  ll : L.length ≤ k
  bl : Below w4.heap.size w4 wr
  bB : B ≤ wr.heap.size

theorem Sn.step {w4 wr w2 : World} {B p RR RW n1 k : Nat} {ct nm : ByteArray} {L L' : List ByteArray} {r0 r1 : Nat → Int} {Wn : Nat → ByteArray} {r s : Int} (h : Sn w4 wr B p RR RW n1 k ct L r0 r1 Wn) (hk : k < n1) (hRW : RW < B) (c1 : w4.heap.size ≤ RR) (c2 : w4.heap.size ≤ RW)
    (hpn : PN w2 B p ct L') (e1 : w2.heap[RR]? = wr.heap[RR]?) (e2 : w2.heap[RW]? = wr.heap[RW]?) (hold : ∀ i, i < k → RefOK ct L' (r0 i) (r1 i) (Wn i)) (hnew : RefOK ct L' r s nm) (hl : L'.length ≤ k + 1) (bl : Below w4.heap.size w4 w2) (bB : B ≤ w2.heap.size) :
    Sn w4 (((w2.setCell ⟨RR, k * 2, none⟩ (.int .u32 r)).setCell ⟨RR, k * 2 + 1, none⟩ (.int .u32 s)).setCell ⟨RW, k, none⟩ (.string nm)) B p RR RW n1 (k + 1) ct L' (up r0 k r) (up r1 k s) (up Wn k nm) := by
  obtain ⟨pn, ⟨cs, hr, hs, hx⟩, ⟨ds, hd, hds, hdx⟩, ok, ll, bl0, bB0⟩ := h
  have hr2 : RowAt w2 RR cs 35 := e1.trans hr
  have hd2 : RowAt w2 RW ds 9 := e2.trans hd
  have hne : RR ≠ RW := row_ne hr hd (by decide)
  have ha := ((hr2.set (k * 2) (.int .u32 r)).set (k * 2 + 1) (.int .u32 s)).set_other hne k (.string nm)
  have hb := ((hd2.set_other (fun e => hne e.symm) (k * 2) (.int .u32 r)).set_other (fun e => hne e.symm) (k * 2 + 1) (.int .u32 s)).set k (.string nm)
  refine ⟨?_, ⟨_, ha, by simp [hs], fun i hi => ?_⟩, ⟨_, hb, by simp [hds], fun i hi => ?_⟩, fun i hi => ?_, hl, ((bl.setCell c1 _).setCell c1 _).setCell c2 _, by simpa using bB⟩
  · obtain ⟨qs, V, q1, q2, q3, q4⟩ := hpn
    refine ⟨qs, V, ((q1.set_other (row_ne q1 hr2 (by decide)) _ _).set_other (row_ne q1 hr2 (by decide)) _ _).set_other (row_ne q1 hd2 (by decide)) _ _, q2, q3, own_kept q4 fun b hb => ?_⟩
    obtain ⟨⟨es, h1⟩, h2⟩ := own_row q4 hb
    have m1 : b ≠ RR := row_ne h1 hr2 (by decide)
    have m2 : b ≠ RW := by omega
    rw [heap_set m2, heap_set m1, heap_set m1]
  · by_cases e : i = k
    · subst e
      rw [up_same, up_same]
      constructor
      · rw [Array.getElem?_setIfInBounds, if_neg (by omega), Array.getElem?_setIfInBounds, if_pos rfl, if_pos (by omega)]
      · rw [Array.getElem?_setIfInBounds, if_pos rfl, if_pos (by simp; omega)]
    · rw [up_other _ _ e, up_other _ _ e]
      have := hx i (by omega)
      constructor
      · rw [Array.getElem?_setIfInBounds, if_neg (by omega), Array.getElem?_setIfInBounds, if_neg (by omega)]
        exact this.1
      · rw [Array.getElem?_setIfInBounds, if_neg (by omega), Array.getElem?_setIfInBounds, if_neg (by omega)]
        exact this.2
  · show _ = some (Value.string (up Wn k nm i))
    by_cases e : i = k
    · subst e
      rw [up_same, Array.getElem?_setIfInBounds, if_pos rfl, if_pos (by omega)]
    · rw [up_other _ _ e, Array.getElem?_setIfInBounds, if_neg (by omega)]
      exact hdx i (by omega)
  · by_cases e : i = k
    · subst e
      rw [up_same, up_same, up_same]
      exact hnew
    · rw [up_other _ _ e, up_other _ _ e, up_other _ _ e]
      exact hold i (by omega)

/-- The step where the name is stashed away. -/
theorem Sn.stepA {w4 wr w2 : World} {B p RR RW n1 k : Nat} {ct nm : ByteArray} {L : List ByteArray} {r0 r1 : Nat → Int} {Wn : Nat → ByteArray} (h : Sn w4 wr B p RR RW n1 k ct L r0 r1 Wn) (hk : k < n1) (hRW : RW < B) (hRR : RR < B) (c0 : w4.heap.size ≤ p) (c1 : w4.heap.size ≤ RR) (c2 : w4.heap.size ≤ RW)
    (hpn : PN w2 B p ct (L ++ [nm])) (hf : Frp B p wr w2) :
    Sn w4 (((w2.setCell ⟨RR, k * 2, none⟩ (.int .u32 2147483648)).setCell ⟨RR, k * 2 + 1, none⟩ (.int .u32 L.length)).setCell ⟨RW, k, none⟩ (.string nm)) B p RR RW n1 (k + 1) ct (L ++ [nm]) (up r0 k 2147483648) (up r1 k L.length) (up Wn k nm) := by
  obtain ⟨qs, V, q1, _⟩ := id h.pn
  obtain ⟨cs, hr, _⟩ := id h.rf
  obtain ⟨ds, hd, _⟩ := id h.wn
  refine h.step hk hRW c1 c2 hpn (hf.block RR hRR (row_ne hr q1 (by decide))) (hf.block RW hRW (row_ne hd q1 (by decide))) (fun i hi => (h.ok i hi).snoc) RefOK.new (by have := h.ll; simp; omega) ?_ (Nat.le_trans h.bB hf.size)
  exact ⟨hf.os.trans h.bl.os, hf.tape.trans h.bl.tape, hf.output.trans h.bl.output, Nat.le_trans h.bl.size hf.size, fun j hj => (hf.block j (by omega) (by omega)).trans (h.bl.block j hj)⟩
/-- The step where the name lies in the file. -/
theorem Sn.stepF {w4 wr w2 : World} {B p RR RW n1 k s n : Nat} {ct : ByteArray} {L : List ByteArray} {r0 r1 : Nat → Int} {Wn : Nat → ByteArray} (h : Sn w4 wr B p RR RW n1 k ct L r0 r1 Wn) (hk : k < n1) (hRW : RW < B) (hRR : RR < B) (c1 : w4.heap.size ≤ RR) (c2 : w4.heap.size ≤ RW)
    (hb : Below wr.heap.size wr w2) (g1 : 1 ≤ n) (g2 : n ≤ 1048576) (g3 : s + n ≤ ct.size) :
    Sn w4 (((w2.setCell ⟨RR, k * 2, none⟩ (.int .u32 (4294967296 - (n : Int)))).setCell ⟨RR, k * 2 + 1, none⟩ (.int .u32 s)).setCell ⟨RW, k, none⟩ (.string (ct.extract s (s + n)))) B p RR RW n1 (k + 1) ct L (up r0 k (4294967296 - (n : Int))) (up r1 k s) (up Wn k (ct.extract s (s + n))) := by
  have hbb := h.bB
  exact h.step hk hRW c1 c2 (h.pn.below hb) (hb.block RR (by omega)) (hb.block RW (by omega)) h.ok (.inr ⟨s, n, g1, g2, g3, rfl, rfl, rfl⟩) (by have := h.ll; omega) (h.bl.trans (hb.mono h.bl.size)) (Nat.le_trans hbb hb.size)

end Go.Proofs.Ytdikaidllmhbhab.fnStoreNameScriptRoundTrip
