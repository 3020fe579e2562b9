import Derived.Test.YtfbjlgjlbndmkaaKit
import Derived.Test.YtfbjlgjlbndmkaaFcP
namespace Go.Proofs.Ytfbjlgjlbndmkaa
open Go.ChangeShapes Go.WideShapes Go.ChangeAt Go.RowKit
set_option linter.unusedVariables false
set_option maxRecDepth 100000
set_option maxHeartbeats 2000000

/-- The law's two configs in memory. -/
structure M3 (w : World) (b b' : Nat) (e : ByteArray) (f o m B : Int) (mn rn : Bool) (a : Option Addr) (n c : Nat) (e' : ByteArray) (f' o' m' B' : Int) (mn' rn' : Bool) (a' : Option Addr) (n' c' : Nat) (Sa Sb : Nat → ByteArray) (W : World) : Prop where
  r1 : RowAt W b (CV e f o m B mn rn a n c) 26
  r2 : RowAt W b' (CV e' f' o' m' B' mn' rn' a' n' c') 26
  l1 : IsStrs W a n c Sa
  l2 : IsStrs W a' n' c' Sb
  below : Below w.heap.size w W
  hb : w.heap.size ≤ b
  hb' : w.heap.size ≤ b'
  hne : b' ≠ b
  d1 : ∀ x i, a = some x → i < c → (x.add i).block ≠ b ∧ (x.add i).block ≠ b'
  d2 : ∀ x i, a' = some x → i < c' → (x.add i).block ≠ b ∧ (x.add i).block ≠ b'
theorem M3.later {w : World} {b b' : Nat} {e : ByteArray} {f o m B : Int} {mn rn : Bool} {a : Option Addr} {n c : Nat} {e' : ByteArray} {f' o' m' B' : Int} {mn' rn' : Bool} {a' : Option Addr} {n' c' : Nat} {Sa Sb : Nat → ByteArray} {W W' : World} (H : M3 w b b' e f o m B mn rn a n c e' f' o' m' B' mn' rn' a' n' c' Sa Sb W) (hb : Below W.heap.size W W') : M3 w b b' e f o m B mn rn a n c e' f' o' m' B' mn' rn' a' n' c' Sa Sb W' :=
  { H with r1 := H.r1.below hb H.r1.lt, r2 := H.r2.below hb H.r2.lt, l1 := strs_later H.l1 hb (Nat.le_refl _), l2 := strs_later H.l2 hb (Nat.le_refl _), below := H.below.trans (hb.mono H.below.size) }
theorem M3.alloc {w : World} {b b' : Nat} {e : ByteArray} {f o m B : Int} {mn rn : Bool} {a : Option Addr} {n c : Nat} {e' : ByteArray} {f' o' m' B' : Int} {mn' rn' : Bool} {a' : Option Addr} {n' c' : Nat} {Sa Sb : Nat → ByteArray} {W : World} (H : M3 w b b' e f o m B mn rn a n c e' f' o' m' B' mn' rn' a' n' c' Sa Sb W) (ob : Obj) : M3 w b b' e f o m B mn rn a n c e' f' o' m' B' mn' rn' a' n' c' Sa Sb (W.alloc ob) := H.later ((Below.refl _ _).alloc (Nat.le_refl _) _)
theorem M3.copy1 {w : World} {b b' : Nat} {e : ByteArray} {f o m B : Int} {mn rn : Bool} {a : Option Addr} {n c : Nat} {e' : ByteArray} {f' o' m' B' : Int} {mn' rn' : Bool} {a' : Option Addr} {n' c' : Nat} {Sa Sb : Nat → ByteArray} {W : World} (H : M3 w b b' e f o m B mn rn a n c e' f' o' m' B' mn' rn' a' n' c' Sa Sb W) (a1 : Option Addr) (hl : IsStrs W a1 n n Sa) (hn : ∀ x, a1 = some x → b < x.block ∧ b' < x.block) :
    M3 w b b' e f o m B mn rn a1 n n e' f' o' m' B' mn' rn' a' n' c' Sa Sb (W.setRow b (CV e f o m B mn rn a1 n n)) :=
  { H with
    r1 := row_setRow H.r1
    r2 := (only_row W b _ b' H.hne).trans H.r2
    l1 := strs_only hl (only_row W b _) (fun x i hx hi => by have := (hn x hx).1; rw [add_block]; omega)
    l2 := strs_only H.l2 (only_row W b _) (fun x i hx hi => (H.d2 x i hx hi).1)
    below := below_setRow H.below H.hb _
    d1 := fun x i hx hi => by have := hn x hx; rw [add_block]; omega }
theorem M3.copy2 {w : World} {b b' : Nat} {e : ByteArray} {f o m B : Int} {mn rn : Bool} {a : Option Addr} {n c : Nat} {e' : ByteArray} {f' o' m' B' : Int} {mn' rn' : Bool} {a' : Option Addr} {n' c' : Nat} {Sa Sb : Nat → ByteArray} {W : World} (H : M3 w b b' e f o m B mn rn a n c e' f' o' m' B' mn' rn' a' n' c' Sa Sb W) (a1 : Option Addr) (hl : IsStrs W a1 n' n' Sb) (hn : ∀ x, a1 = some x → b < x.block ∧ b' < x.block) :
    M3 w b b' e f o m B mn rn a n c e' f' o' m' B' mn' rn' a1 n' n' Sa Sb (W.setRow b' (CV e' f' o' m' B' mn' rn' a1 n' n')) :=
  { H with
    r1 := (only_row W b' _ b (Ne.symm H.hne)).trans H.r1
    r2 := row_setRow H.r2
    l1 := strs_only H.l1 (only_row W b' _) (fun x i hx hi => (H.d1 x i hx hi).2)
    l2 := strs_only hl (only_row W b' _) (fun x i hx hi => by have := (hn x hx).2; rw [add_block]; omega)
    below := below_setRow H.below H.hb' _
    d2 := fun x i hx hi => by have := hn x hx; rw [add_block]; omega }
theorem m3_start (e : ByteArray) (f o m B : Int) (mn rn : Bool) (a : Option Addr) (n c : Nat) (e' : ByteArray) (f' o' m' B' : Int) (mn' rn' : Bool) (a' : Option Addr) (n' c' : Nat) (Sa Sb : Nat → ByteArray) (w : World) (hl1 : IsStrs w a n c Sa) (hl2 : IsStrs w a' n' c' Sb) :
    M3 w w.heap.size (w.heap.size + 1) e f o m B mn rn a n c e' f' o' m' B' mn' rn' a' n' c' Sa Sb ((w.alloc (.cells (CV e f o m B mn rn a n c) 26)).alloc (.cells (CV e' f' o' m' B' mn' rn' a' n' c') 26)) := by
  have hb : Below w.heap.size w ((w.alloc (.cells (CV e f o m B mn rn a n c) 26)).alloc (.cells (CV e' f' o' m' B' mn' rn' a' n' c') 26)) := ((Below.refl _ _).alloc (Nat.le_refl _) _).alloc (by simp) _
  have r2 := RowAt.new (w.alloc (.cells (CV e f o m B mn rn a n c) 26)) (CV e' f' o' m' B' mn' rn' a' n' c') 26
  rw [show (w.alloc (.cells (CV e f o m B mn rn a n c) 26)).heap.size = w.heap.size + 1 by simp] at r2
  have d : ∀ (a : Option Addr) (n c : Nat) (S : Nat → ByteArray), IsStrs w a n c S → ∀ x i, a = some x → i < c → (x.add i).block ≠ w.heap.size ∧ (x.add i).block ≠ w.heap.size + 1 := fun a n c S h x i hx hi => by
    subst hx
    have := cell_lt (strs_cell h i hi).1
    omega
  exact ⟨(RowAt.new w (CV e f o m B mn rn a n c) 26).alloc _, r2, strs_later hl1 hb (Nat.le_refl _), strs_later hl2 hb (Nat.le_refl _), hb, Nat.le_refl _, by omega, by omega, d a n c Sa hl1, d a' n' c' Sb hl2⟩
theorem build7 (e : ByteArray) (f o m B : Int) (mn rn : Bool) (a : Option Addr) (n c : Nat) (Sx : Nat → ByteArray) (w : World) (h0 : 0 ≤ B) (h1 : B < 65536) (hn : n ≤ 1048576) (hx : IsStrs w a n c Sx) : Calls Try.prog 7 #[.agg (CV e f o m B mn rn a n c)] w (Built w e f o m B mn rn n Sx) := by
  cases mn
  · cases rn
    · exact build7_00 e f o m B a n c Sx w h0 h1 hn hx
    · exact build7_01 e f o m B a n c Sx w h0 h1 hn hx
  · cases rn
    · exact build7_10 e f o m B a n c Sx w h0 h1 hn hx
    · exact build7_11 e f o m B a n c Sx w h0 h1 hn hx

end Go.Proofs.Ytfbjlgjlbndmkaa
