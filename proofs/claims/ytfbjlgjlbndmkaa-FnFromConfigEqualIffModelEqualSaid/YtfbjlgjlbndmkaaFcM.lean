import Derived.Test.YtfbjlgjlbndmkaaKit
import Derived.Test.YtfbjlgjlbndmkaaFcL
namespace Go.Proofs.Ytfbjlgjlbndmkaa
open Go.ChangeShapes Go.WideShapes Go.ChangeAt Go.RowKit
set_option linter.unusedVariables false
set_option maxRecDepth 100000
set_option maxHeartbeats 2000000

/-- The model's answer. -/
def modEq (e : ByteArray) (f o m B : Int) (mn rn : Bool) (a : Option Addr) (n c : Nat) (e' : ByteArray) (f' o' m' B' : Int) (mn' rn' : Bool) (a' : Option Addr) (n' c' : Nat) (Sa Sb : Nat → ByteArray) : Bool :=
  (bits BinOp.and IntKind.u16 B 2047 == bits BinOp.and IntKind.u16 B' 2047) && ((e.toList == e'.toList) && ((f == f') && ((o == o') && ((m == m') && ((mn == mn') && ((rn == rn') && eqL n n' Sa Sb))))))
set_option maxHeartbeats 4000000 in
theorem mod9_0 (e : ByteArray) (f o m B : Int) (mn rn : Bool) (a : Option Addr) (n c : Nat) (e' : ByteArray) (f' o' m' B' : Int) (mn' rn' : Bool) (a' : Option Addr) (n' c' : Nat) (Sa Sb : Nat → ByteArray) (w : World) (hB : 0 ≤ B ∧ B < 65536) (hB' : 0 ≤ B' ∧ B' < 65536) (hn1 : n ≤ 1048576) (hn2 : n' ≤ 1048576) (hl1 : IsStrs w a n c Sa) (hl2 : IsStrs w a' n' c' Sb) (q0 : (bits BinOp.and IntKind.u16 B 2047 == bits BinOp.and IntKind.u16 B' 2047) = false) :
    Calls Try.prog 9 #[.agg #[.int .u16 B, .string e, .int .u64 f, .int .u64 o, .int .u64 m, .bool mn, .bool rn, .slice a n c], .agg #[.int .u16 B', .string e', .int .u64 f', .int .u64 o', .int .u64 m', .bool mn', .bool rn', .slice a' n' c']] w fun en w' => en = .returned (.bool false) ∧ Below w.heap.size w w' := by
  have h1 : IsStrs _ a n c Sa := strs_later hl1 (((Below.refl _ _).alloc (Nat.le_refl _) _).alloc (by simp) _ : Below w.heap.size w ((w.alloc (.cells #[.int .u16 B, .string e, .int .u64 f, .int .u64 o, .int .u64 m, .bool mn, .bool rn, .slice a n c] 26)).alloc (.cells #[.int .u16 B', .string e', .int .u64 f', .int .u64 o', .int .u64 m', .bool mn', .bool rn', .slice a' n' c'] 26))) (Nat.le_refl _)
  have h2 : IsStrs _ a' n' c' Sb := strs_later hl2 (((Below.refl _ _).alloc (Nat.le_refl _) _).alloc (by simp) _ : Below w.heap.size w ((w.alloc (.cells #[.int .u16 B, .string e, .int .u64 f, .int .u64 o, .int .u64 m, .bool mn, .bool rn, .slice a n c] 26)).alloc (.cells #[.int .u16 B', .string e', .int .u64 f', .int .u64 o', .int .u64 m', .bool mn', .bool rn', .slice a' n' c'] 26))) (Nat.le_refl _)
  have H1 := Lib.hid h1
  have H2 := Lib.hid h2
  clear h1 h2 hl1 hl2
  obtain ⟨b0, b1⟩ := hB
  obtain ⟨b2, b3⟩ := hB'
  go_enter Try.func9, Try.ntmps9
  go_wp2
  go_ret
  exact ⟨rfl, ((Below.refl _ _).alloc (Nat.le_refl _) _).alloc (by simp) _⟩
set_option maxHeartbeats 4000000 in
theorem mod9_1 (e : ByteArray) (f o m B : Int) (mn rn : Bool) (a : Option Addr) (n c : Nat) (e' : ByteArray) (f' o' m' B' : Int) (mn' rn' : Bool) (a' : Option Addr) (n' c' : Nat) (Sa Sb : Nat → ByteArray) (w : World) (hB : 0 ≤ B ∧ B < 65536) (hB' : 0 ≤ B' ∧ B' < 65536) (hn1 : n ≤ 1048576) (hn2 : n' ≤ 1048576) (hl1 : IsStrs w a n c Sa) (hl2 : IsStrs w a' n' c' Sb) (q0 : (bits BinOp.and IntKind.u16 B 2047 == bits BinOp.and IntKind.u16 B' 2047) = true) (q1 : (e.toList == e'.toList) = false) :
    Calls Try.prog 9 #[.agg #[.int .u16 B, .string e, .int .u64 f, .int .u64 o, .int .u64 m, .bool mn, .bool rn, .slice a n c], .agg #[.int .u16 B', .string e', .int .u64 f', .int .u64 o', .int .u64 m', .bool mn', .bool rn', .slice a' n' c']] w fun en w' => en = .returned (.bool false) ∧ Below w.heap.size w w' := by
  have h1 : IsStrs _ a n c Sa := strs_later hl1 (((Below.refl _ _).alloc (Nat.le_refl _) _).alloc (by simp) _ : Below w.heap.size w ((w.alloc (.cells #[.int .u16 B, .string e, .int .u64 f, .int .u64 o, .int .u64 m, .bool mn, .bool rn, .slice a n c] 26)).alloc (.cells #[.int .u16 B', .string e', .int .u64 f', .int .u64 o', .int .u64 m', .bool mn', .bool rn', .slice a' n' c'] 26))) (Nat.le_refl _)
  have h2 : IsStrs _ a' n' c' Sb := strs_later hl2 (((Below.refl _ _).alloc (Nat.le_refl _) _).alloc (by simp) _ : Below w.heap.size w ((w.alloc (.cells #[.int .u16 B, .string e, .int .u64 f, .int .u64 o, .int .u64 m, .bool mn, .bool rn, .slice a n c] 26)).alloc (.cells #[.int .u16 B', .string e', .int .u64 f', .int .u64 o', .int .u64 m', .bool mn', .bool rn', .slice a' n' c'] 26))) (Nat.le_refl _)
  have H1 := Lib.hid h1
  have H2 := Lib.hid h2
  clear h1 h2 hl1 hl2
  obtain ⟨b0, b1⟩ := hB
  obtain ⟨b2, b3⟩ := hB'
  go_enter Try.func9, Try.ntmps9
  go_wp2
  go_ret
  exact ⟨rfl, ((Below.refl _ _).alloc (Nat.le_refl _) _).alloc (by simp) _⟩
set_option maxHeartbeats 4000000 in
theorem mod9_2 (e : ByteArray) (f o m B : Int) (mn rn : Bool) (a : Option Addr) (n c : Nat) (e' : ByteArray) (f' o' m' B' : Int) (mn' rn' : Bool) (a' : Option Addr) (n' c' : Nat) (Sa Sb : Nat → ByteArray) (w : World) (hB : 0 ≤ B ∧ B < 65536) (hB' : 0 ≤ B' ∧ B' < 65536) (hn1 : n ≤ 1048576) (hn2 : n' ≤ 1048576) (hl1 : IsStrs w a n c Sa) (hl2 : IsStrs w a' n' c' Sb) (q0 : (bits BinOp.and IntKind.u16 B 2047 == bits BinOp.and IntKind.u16 B' 2047) = true) (q1 : (e.toList == e'.toList) = true) (q2 : (f == f') = false) :
    Calls Try.prog 9 #[.agg #[.int .u16 B, .string e, .int .u64 f, .int .u64 o, .int .u64 m, .bool mn, .bool rn, .slice a n c], .agg #[.int .u16 B', .string e', .int .u64 f', .int .u64 o', .int .u64 m', .bool mn', .bool rn', .slice a' n' c']] w fun en w' => en = .returned (.bool false) ∧ Below w.heap.size w w' := by
  have h1 : IsStrs _ a n c Sa := strs_later hl1 (((Below.refl _ _).alloc (Nat.le_refl _) _).alloc (by simp) _ : Below w.heap.size w ((w.alloc (.cells #[.int .u16 B, .string e, .int .u64 f, .int .u64 o, .int .u64 m, .bool mn, .bool rn, .slice a n c] 26)).alloc (.cells #[.int .u16 B', .string e', .int .u64 f', .int .u64 o', .int .u64 m', .bool mn', .bool rn', .slice a' n' c'] 26))) (Nat.le_refl _)
  have h2 : IsStrs _ a' n' c' Sb := strs_later hl2 (((Below.refl _ _).alloc (Nat.le_refl _) _).alloc (by simp) _ : Below w.heap.size w ((w.alloc (.cells #[.int .u16 B, .string e, .int .u64 f, .int .u64 o, .int .u64 m, .bool mn, .bool rn, .slice a n c] 26)).alloc (.cells #[.int .u16 B', .string e', .int .u64 f', .int .u64 o', .int .u64 m', .bool mn', .bool rn', .slice a' n' c'] 26))) (Nat.le_refl _)
  have H1 := Lib.hid h1
  have H2 := Lib.hid h2
  clear h1 h2 hl1 hl2
  obtain ⟨b0, b1⟩ := hB
  obtain ⟨b2, b3⟩ := hB'
  go_enter Try.func9, Try.ntmps9
  go_wp2
  go_ret
  exact ⟨rfl, ((Below.refl _ _).alloc (Nat.le_refl _) _).alloc (by simp) _⟩
set_option maxHeartbeats 4000000 in
theorem mod9_3 (e : ByteArray) (f o m B : Int) (mn rn : Bool) (a : Option Addr) (n c : Nat) (e' : ByteArray) (f' o' m' B' : Int) (mn' rn' : Bool) (a' : Option Addr) (n' c' : Nat) (Sa Sb : Nat → ByteArray) (w : World) (hB : 0 ≤ B ∧ B < 65536) (hB' : 0 ≤ B' ∧ B' < 65536) (hn1 : n ≤ 1048576) (hn2 : n' ≤ 1048576) (hl1 : IsStrs w a n c Sa) (hl2 : IsStrs w a' n' c' Sb) (q0 : (bits BinOp.and IntKind.u16 B 2047 == bits BinOp.and IntKind.u16 B' 2047) = true) (q1 : (e.toList == e'.toList) = true) (q2 : (f == f') = true) (q3 : (o == o') = false) :
    Calls Try.prog 9 #[.agg #[.int .u16 B, .string e, .int .u64 f, .int .u64 o, .int .u64 m, .bool mn, .bool rn, .slice a n c], .agg #[.int .u16 B', .string e', .int .u64 f', .int .u64 o', .int .u64 m', .bool mn', .bool rn', .slice a' n' c']] w fun en w' => en = .returned (.bool false) ∧ Below w.heap.size w w' := by
  have h1 : IsStrs _ a n c Sa := strs_later hl1 (((Below.refl _ _).alloc (Nat.le_refl _) _).alloc (by simp) _ : Below w.heap.size w ((w.alloc (.cells #[.int .u16 B, .string e, .int .u64 f, .int .u64 o, .int .u64 m, .bool mn, .bool rn, .slice a n c] 26)).alloc (.cells #[.int .u16 B', .string e', .int .u64 f', .int .u64 o', .int .u64 m', .bool mn', .bool rn', .slice a' n' c'] 26))) (Nat.le_refl _)
  have h2 : IsStrs _ a' n' c' Sb := strs_later hl2 (((Below.refl _ _).alloc (Nat.le_refl _) _).alloc (by simp) _ : Below w.heap.size w ((w.alloc (.cells #[.int .u16 B, .string e, .int .u64 f, .int .u64 o, .int .u64 m, .bool mn, .bool rn, .slice a n c] 26)).alloc (.cells #[.int .u16 B', .string e', .int .u64 f', .int .u64 o', .int .u64 m', .bool mn', .bool rn', .slice a' n' c'] 26))) (Nat.le_refl _)
  have H1 := Lib.hid h1
  have H2 := Lib.hid h2
  clear h1 h2 hl1 hl2
  obtain ⟨b0, b1⟩ := hB
  obtain ⟨b2, b3⟩ := hB'
  go_enter Try.func9, Try.ntmps9
  go_wp2
  go_ret
  exact ⟨rfl, ((Below.refl _ _).alloc (Nat.le_refl _) _).alloc (by simp) _⟩
set_option maxHeartbeats 4000000 in
theorem mod9_4 (e : ByteArray) (f o m B : Int) (mn rn : Bool) (a : Option Addr) (n c : Nat) (e' : ByteArray) (f' o' m' B' : Int) (mn' rn' : Bool) (a' : Option Addr) (n' c' : Nat) (Sa Sb : Nat → ByteArray) (w : World) (hB : 0 ≤ B ∧ B < 65536) (hB' : 0 ≤ B' ∧ B' < 65536) (hn1 : n ≤ 1048576) (hn2 : n' ≤ 1048576) (hl1 : IsStrs w a n c Sa) (hl2 : IsStrs w a' n' c' Sb) (q0 : (bits BinOp.and IntKind.u16 B 2047 == bits BinOp.and IntKind.u16 B' 2047) = true) (q1 : (e.toList == e'.toList) = true) (q2 : (f == f') = true) (q3 : (o == o') = true) (q4 : (m == m') = false) :
    Calls Try.prog 9 #[.agg #[.int .u16 B, .string e, .int .u64 f, .int .u64 o, .int .u64 m, .bool mn, .bool rn, .slice a n c], .agg #[.int .u16 B', .string e', .int .u64 f', .int .u64 o', .int .u64 m', .bool mn', .bool rn', .slice a' n' c']] w fun en w' => en = .returned (.bool false) ∧ Below w.heap.size w w' := by
  have h1 : IsStrs _ a n c Sa := strs_later hl1 (((Below.refl _ _).alloc (Nat.le_refl _) _).alloc (by simp) _ : Below w.heap.size w ((w.alloc (.cells #[.int .u16 B, .string e, .int .u64 f, .int .u64 o, .int .u64 m, .bool mn, .bool rn, .slice a n c] 26)).alloc (.cells #[.int .u16 B', .string e', .int .u64 f', .int .u64 o', .int .u64 m', .bool mn', .bool rn', .slice a' n' c'] 26))) (Nat.le_refl _)
  have h2 : IsStrs _ a' n' c' Sb := strs_later hl2 (((Below.refl _ _).alloc (Nat.le_refl _) _).alloc (by simp) _ : Below w.heap.size w ((w.alloc (.cells #[.int .u16 B, .string e, .int .u64 f, .int .u64 o, .int .u64 m, .bool mn, .bool rn, .slice a n c] 26)).alloc (.cells #[.int .u16 B', .string e', .int .u64 f', .int .u64 o', .int .u64 m', .bool mn', .bool rn', .slice a' n' c'] 26))) (Nat.le_refl _)
  have H1 := Lib.hid h1
  have H2 := Lib.hid h2
  clear h1 h2 hl1 hl2
  obtain ⟨b0, b1⟩ := hB
  obtain ⟨b2, b3⟩ := hB'
  go_enter Try.func9, Try.ntmps9
  go_wp2
  go_ret
  exact ⟨rfl, ((Below.refl _ _).alloc (Nat.le_refl _) _).alloc (by simp) _⟩
set_option maxHeartbeats 4000000 in
theorem mod9_5 (e : ByteArray) (f o m B : Int) (mn rn : Bool) (a : Option Addr) (n c : Nat) (e' : ByteArray) (f' o' m' B' : Int) (mn' rn' : Bool) (a' : Option Addr) (n' c' : Nat) (Sa Sb : Nat → ByteArray) (w : World) (hB : 0 ≤ B ∧ B < 65536) (hB' : 0 ≤ B' ∧ B' < 65536) (hn1 : n ≤ 1048576) (hn2 : n' ≤ 1048576) (hl1 : IsStrs w a n c Sa) (hl2 : IsStrs w a' n' c' Sb) (q0 : (bits BinOp.and IntKind.u16 B 2047 == bits BinOp.and IntKind.u16 B' 2047) = true) (q1 : (e.toList == e'.toList) = true) (q2 : (f == f') = true) (q3 : (o == o') = true) (q4 : (m == m') = true) (q5 : (mn == mn') = false) :
    Calls Try.prog 9 #[.agg #[.int .u16 B, .string e, .int .u64 f, .int .u64 o, .int .u64 m, .bool mn, .bool rn, .slice a n c], .agg #[.int .u16 B', .string e', .int .u64 f', .int .u64 o', .int .u64 m', .bool mn', .bool rn', .slice a' n' c']] w fun en w' => en = .returned (.bool false) ∧ Below w.heap.size w w' := by
  have h1 : IsStrs _ a n c Sa := strs_later hl1 (((Below.refl _ _).alloc (Nat.le_refl _) _).alloc (by simp) _ : Below w.heap.size w ((w.alloc (.cells #[.int .u16 B, .string e, .int .u64 f, .int .u64 o, .int .u64 m, .bool mn, .bool rn, .slice a n c] 26)).alloc (.cells #[.int .u16 B', .string e', .int .u64 f', .int .u64 o', .int .u64 m', .bool mn', .bool rn', .slice a' n' c'] 26))) (Nat.le_refl _)
  have h2 : IsStrs _ a' n' c' Sb := strs_later hl2 (((Below.refl _ _).alloc (Nat.le_refl _) _).alloc (by simp) _ : Below w.heap.size w ((w.alloc (.cells #[.int .u16 B, .string e, .int .u64 f, .int .u64 o, .int .u64 m, .bool mn, .bool rn, .slice a n c] 26)).alloc (.cells #[.int .u16 B', .string e', .int .u64 f', .int .u64 o', .int .u64 m', .bool mn', .bool rn', .slice a' n' c'] 26))) (Nat.le_refl _)
  have H1 := Lib.hid h1
  have H2 := Lib.hid h2
  clear h1 h2 hl1 hl2
  obtain ⟨b0, b1⟩ := hB
  obtain ⟨b2, b3⟩ := hB'
  go_enter Try.func9, Try.ntmps9
  go_wp2
  go_ret
  exact ⟨rfl, ((Below.refl _ _).alloc (Nat.le_refl _) _).alloc (by simp) _⟩
set_option maxHeartbeats 4000000 in
theorem mod9_6 (e : ByteArray) (f o m B : Int) (mn rn : Bool) (a : Option Addr) (n c : Nat) (e' : ByteArray) (f' o' m' B' : Int) (mn' rn' : Bool) (a' : Option Addr) (n' c' : Nat) (Sa Sb : Nat → ByteArray) (w : World) (hB : 0 ≤ B ∧ B < 65536) (hB' : 0 ≤ B' ∧ B' < 65536) (hn1 : n ≤ 1048576) (hn2 : n' ≤ 1048576) (hl1 : IsStrs w a n c Sa) (hl2 : IsStrs w a' n' c' Sb) (q0 : (bits BinOp.and IntKind.u16 B 2047 == bits BinOp.and IntKind.u16 B' 2047) = true) (q1 : (e.toList == e'.toList) = true) (q2 : (f == f') = true) (q3 : (o == o') = true) (q4 : (m == m') = true) (q5 : (mn == mn') = true) (q6 : (rn == rn') = false) :
    Calls Try.prog 9 #[.agg #[.int .u16 B, .string e, .int .u64 f, .int .u64 o, .int .u64 m, .bool mn, .bool rn, .slice a n c], .agg #[.int .u16 B', .string e', .int .u64 f', .int .u64 o', .int .u64 m', .bool mn', .bool rn', .slice a' n' c']] w fun en w' => en = .returned (.bool false) ∧ Below w.heap.size w w' := by
  have h1 : IsStrs _ a n c Sa := strs_later hl1 (((Below.refl _ _).alloc (Nat.le_refl _) _).alloc (by simp) _ : Below w.heap.size w ((w.alloc (.cells #[.int .u16 B, .string e, .int .u64 f, .int .u64 o, .int .u64 m, .bool mn, .bool rn, .slice a n c] 26)).alloc (.cells #[.int .u16 B', .string e', .int .u64 f', .int .u64 o', .int .u64 m', .bool mn', .bool rn', .slice a' n' c'] 26))) (Nat.le_refl _)
  have h2 : IsStrs _ a' n' c' Sb := strs_later hl2 (((Below.refl _ _).alloc (Nat.le_refl _) _).alloc (by simp) _ : Below w.heap.size w ((w.alloc (.cells #[.int .u16 B, .string e, .int .u64 f, .int .u64 o, .int .u64 m, .bool mn, .bool rn, .slice a n c] 26)).alloc (.cells #[.int .u16 B', .string e', .int .u64 f', .int .u64 o', .int .u64 m', .bool mn', .bool rn', .slice a' n' c'] 26))) (Nat.le_refl _)
  have H1 := Lib.hid h1
  have H2 := Lib.hid h2
  clear h1 h2 hl1 hl2
  obtain ⟨b0, b1⟩ := hB
  obtain ⟨b2, b3⟩ := hB'
  go_enter Try.func9, Try.ntmps9
  go_wp2
  go_ret
  exact ⟨rfl, ((Below.refl _ _).alloc (Nat.le_refl _) _).alloc (by simp) _⟩
set_option maxHeartbeats 4000000 in
theorem mod9_7 (e : ByteArray) (f o m B : Int) (mn rn : Bool) (a : Option Addr) (n c : Nat) (e' : ByteArray) (f' o' m' B' : Int) (mn' rn' : Bool) (a' : Option Addr) (n' c' : Nat) (Sa Sb : Nat → ByteArray) (w : World) (hB : 0 ≤ B ∧ B < 65536) (hB' : 0 ≤ B' ∧ B' < 65536) (hn1 : n ≤ 1048576) (hn2 : n' ≤ 1048576) (hl1 : IsStrs w a n c Sa) (hl2 : IsStrs w a' n' c' Sb) (q0 : (bits BinOp.and IntKind.u16 B 2047 == bits BinOp.and IntKind.u16 B' 2047) = true) (q1 : (e.toList == e'.toList) = true) (q2 : (f == f') = true) (q3 : (o == o') = true) (q4 : (m == m') = true) (q5 : (mn == mn') = true) (q6 : (rn == rn') = true) :
    Calls Try.prog 9 #[.agg #[.int .u16 B, .string e, .int .u64 f, .int .u64 o, .int .u64 m, .bool mn, .bool rn, .slice a n c], .agg #[.int .u16 B', .string e', .int .u64 f', .int .u64 o', .int .u64 m', .bool mn', .bool rn', .slice a' n' c']] w fun en w' => en = .returned (.bool (eqL n n' Sa Sb)) ∧ Below w.heap.size w w' := by
  have h1 : IsStrs _ a n c Sa := strs_later hl1 (((Below.refl _ _).alloc (Nat.le_refl _) _).alloc (by simp) _ : Below w.heap.size w ((w.alloc (.cells #[.int .u16 B, .string e, .int .u64 f, .int .u64 o, .int .u64 m, .bool mn, .bool rn, .slice a n c] 26)).alloc (.cells #[.int .u16 B', .string e', .int .u64 f', .int .u64 o', .int .u64 m', .bool mn', .bool rn', .slice a' n' c'] 26))) (Nat.le_refl _)
  have h2 : IsStrs _ a' n' c' Sb := strs_later hl2 (((Below.refl _ _).alloc (Nat.le_refl _) _).alloc (by simp) _ : Below w.heap.size w ((w.alloc (.cells #[.int .u16 B, .string e, .int .u64 f, .int .u64 o, .int .u64 m, .bool mn, .bool rn, .slice a n c] 26)).alloc (.cells #[.int .u16 B', .string e', .int .u64 f', .int .u64 o', .int .u64 m', .bool mn', .bool rn', .slice a' n' c'] 26))) (Nat.le_refl _)
  have H1 := Lib.hid h1
  have H2 := Lib.hid h2
  clear h1 h2 hl1 hl2
  obtain ⟨b0, b1⟩ := hB
  obtain ⟨b2, b3⟩ := hB'
  go_enter Try.func9, Try.ntmps9
  go_wp2_with fail
  refine (lab15 a a' n c n' c' Sa Sb _ hn1 hn2 H1.out H2.out).mono ?_
  rintro en w' ⟨rfl, q, rfl⟩
  obtain ⟨R, hR⟩ : ∃ R, eqL n n' Sa Sb = R := ⟨_, rfl⟩
  rw [hR]
  have HRR := Lib.hid hR
  clear hR
  go_wp2
  go_ret
  exact ⟨ret_bool HRR.out.symm, below_drewN (((Below.refl _ _).alloc (Nat.le_refl _) _).alloc (by simp) _) q⟩
theorem mod9 (e : ByteArray) (f o m B : Int) (mn rn : Bool) (a : Option Addr) (n c : Nat) (e' : ByteArray) (f' o' m' B' : Int) (mn' rn' : Bool) (a' : Option Addr) (n' c' : Nat) (Sa Sb : Nat → ByteArray) (w : World) (hB : 0 ≤ B ∧ B < 65536) (hB' : 0 ≤ B' ∧ B' < 65536) (hn1 : n ≤ 1048576) (hn2 : n' ≤ 1048576) (hl1 : IsStrs w a n c Sa) (hl2 : IsStrs w a' n' c' Sb) :
    Calls Try.prog 9 #[.agg (CV e f o m B mn rn a n c), .agg (CV e' f' o' m' B' mn' rn' a' n' c')] w fun en w' => en = .returned (.bool (modEq e f o m B mn rn a n c e' f' o' m' B' mn' rn' a' n' c' Sa Sb)) ∧ Below w.heap.size w w' := by
  show Calls Try.prog 9 #[.agg #[.int .u16 B, .string e, .int .u64 f, .int .u64 o, .int .u64 m, .bool mn, .bool rn, .slice a n c], .agg #[.int .u16 B', .string e', .int .u64 f', .int .u64 o', .int .u64 m', .bool mn', .bool rn', .slice a' n' c']] w _
  cases q0 : (bits BinOp.and IntKind.u16 B 2047 == bits BinOp.and IntKind.u16 B' 2047) with
  | false => exact (mod9_0 e f o m B mn rn a n c e' f' o' m' B' mn' rn' a' n' c' Sa Sb w hB hB' hn1 hn2 hl1 hl2 q0).mono fun en w' ⟨h1, h2⟩ => ⟨h1.trans (ret_bool (by unfold modEq; rw [q0]; rfl)), h2⟩
  | true =>
    cases q1 : (e.toList == e'.toList) with
    | false => exact (mod9_1 e f o m B mn rn a n c e' f' o' m' B' mn' rn' a' n' c' Sa Sb w hB hB' hn1 hn2 hl1 hl2 q0 q1).mono fun en w' ⟨h1, h2⟩ => ⟨h1.trans (ret_bool (by unfold modEq; rw [q0, q1]; rfl)), h2⟩
    | true =>
      cases q2 : (f == f') with
      | false => exact (mod9_2 e f o m B mn rn a n c e' f' o' m' B' mn' rn' a' n' c' Sa Sb w hB hB' hn1 hn2 hl1 hl2 q0 q1 q2).mono fun en w' ⟨h1, h2⟩ => ⟨h1.trans (ret_bool (by unfold modEq; rw [q0, q1, q2]; rfl)), h2⟩
      | true =>
        cases q3 : (o == o') with
        | false => exact (mod9_3 e f o m B mn rn a n c e' f' o' m' B' mn' rn' a' n' c' Sa Sb w hB hB' hn1 hn2 hl1 hl2 q0 q1 q2 q3).mono fun en w' ⟨h1, h2⟩ => ⟨h1.trans (ret_bool (by unfold modEq; rw [q0, q1, q2, q3]; rfl)), h2⟩
        | true =>
          cases q4 : (m == m') with
          | false => exact (mod9_4 e f o m B mn rn a n c e' f' o' m' B' mn' rn' a' n' c' Sa Sb w hB hB' hn1 hn2 hl1 hl2 q0 q1 q2 q3 q4).mono fun en w' ⟨h1, h2⟩ => ⟨h1.trans (ret_bool (by unfold modEq; rw [q0, q1, q2, q3, q4]; rfl)), h2⟩
          | true =>
            cases q5 : (mn == mn') with
            | false => exact (mod9_5 e f o m B mn rn a n c e' f' o' m' B' mn' rn' a' n' c' Sa Sb w hB hB' hn1 hn2 hl1 hl2 q0 q1 q2 q3 q4 q5).mono fun en w' ⟨h1, h2⟩ => ⟨h1.trans (ret_bool (by unfold modEq; rw [q0, q1, q2, q3, q4, q5]; rfl)), h2⟩
            | true =>
              cases q6 : (rn == rn') with
              | false => exact (mod9_6 e f o m B mn rn a n c e' f' o' m' B' mn' rn' a' n' c' Sa Sb w hB hB' hn1 hn2 hl1 hl2 q0 q1 q2 q3 q4 q5 q6).mono fun en w' ⟨h1, h2⟩ => ⟨h1.trans (ret_bool (by unfold modEq; rw [q0, q1, q2, q3, q4, q5, q6]; rfl)), h2⟩
              | true =>
                exact (mod9_7 e f o m B mn rn a n c e' f' o' m' B' mn' rn' a' n' c' Sa Sb w hB hB' hn1 hn2 hl1 hl2 q0 q1 q2 q3 q4 q5 q6).mono fun en w' ⟨h1, h2⟩ => ⟨h1.trans (ret_bool (by unfold modEq; rw [q0, q1, q2, q3, q4, q5, q6]; rfl)), h2⟩
/-- A copy of a config. -/
def CfgCopy (w : World) (e : ByteArray) (f o m B : Int) (mn rn : Bool) (n : Nat) (Sx : Nat → ByteArray) (en : Ending) (w' : World) : Prop := ∃ a', en = .returned (.agg (CV e f o m B mn rn a' n n)) ∧ IsStrs w' a' n n Sx ∧ Below w.heap.size w w' ∧ ∀ x, a' = some x → w.heap.size ≤ x.block
set_option maxHeartbeats 4000000 in
theorem copy6 (e : ByteArray) (f o m B : Int) (mn rn : Bool) (a : Option Addr) (n c : Nat) (Sa : Nat → ByteArray) (w : World) (hn : n ≤ 1048576) (hl : IsStrs w a n c Sa) : Calls Try.prog 6 #[.agg (CV e f o m B mn rn a n c)] w (CfgCopy w e f o m B mn rn n Sa) := by
  show Calls Try.prog 6 #[.agg #[.int .u16 B, .string e, .int .u64 f, .int .u64 o, .int .u64 m, .bool mn, .bool rn, .slice a n c]] w _
  have hz := fun W => zv26 W
  go_enter Try.func6, Try.ntmps6
  go_wp2_with fail
  have hb0 : Below w.heap.size w ((w.alloc (.cells #[.int .u16 B, .string e, .int .u64 f, .int .u64 o, .int .u64 m, .bool mn, .bool rn, .slice a n c] 26)).alloc (.cells PZ26 26)) := ((Below.refl _ _).alloc (Nat.le_refl _) _).alloc (by simp) _
  refine (clone10 a n c Sa _ hn (strs_later hl hb0 (Nat.le_refl _))).mono ?_
  rintro en w1 ⟨a1, rfl, hl1, hb1, hnew⟩
  have r1 := ((RowAt.new w #[.int .u16 B, .string e, .int .u64 f, .int .u64 o, .int .u64 m, .bool mn, .bool rn, .slice a n c] 26).alloc (.cells PZ26 26)).below hb1 (by simp; omega)
  have r2 := (RowAt.new (w.alloc (.cells #[.int .u16 B, .string e, .int .u64 f, .int .u64 o, .int .u64 m, .bool mn, .bool rn, .slice a n c] 26)) PZ26 26).below hb1 (by simp)
  rw [show (w.alloc (.cells #[.int .u16 B, .string e, .int .u64 f, .int .u64 o, .int .u64 m, .bool mn, .bool rn, .slice a n c] 26)).heap.size = w.heap.size + 1 by simp] at r2
  have hb := hb0.trans (hb1.mono hb0.size)
  have hlb : ∀ x i, a1 = some x → i < n → (x.add i).block ≠ w.heap.size := fun x i hx hi => by
    have h1 := hnew x hx
    rw [add_block]
    simp at h1
    omega
  have hlr : ∀ x i, a1 = some x → i < n → (x.add i).block ≠ w.heap.size + 1 := fun x i hx hi => by
    have h1 := hnew x hx
    rw [add_block]
    simp at h1
    omega
  have hnn : ∀ x, a1 = some x → w.heap.size ≤ x.block := fun x hx => by
    have h1 := hnew x hx
    simp at h1
    omega
  obtain ⟨b, hbe⟩ : ∃ b, b = w.heap.size := ⟨_, rfl⟩
  obtain ⟨r, hre⟩ : ∃ r, r = w.heap.size + 1 := ⟨_, rfl⟩
  have hge : w.heap.size ≤ b := by omega
  have hgr : w.heap.size ≤ r := by omega
  have hbr : r ≠ b := by omega
  rw [← hre] at r2 hlr ⊢
  rw [← hbe] at r1 hlb ⊢
  clear hbe hre hb0 hb1 hnew hl
  have c7 := r1.cellv (j := 7) (v := .slice a n c) (by rfl)
  have z7 := r1.frozen 7
  have s1 := r1.set 7 (.slice a1 n n)
  have s2 : RowAt (w1.setCell ⟨b, 7, none⟩ (.slice a1 n n)) r PZ26 26 := (only_set w1 b 7 _ r hbr).trans r2
  have S1 := Lib.hid (show RowAt (w1.setCell ⟨b, 7, none⟩ (.slice a1 n n)) b (CV e f o m B mn rn a1 n n) 26 from s1)
  have S2 := Lib.hid s2
  have H := Lib.hid (And.intro hl1 (And.intro hb (And.intro hlb (And.intro hlr (And.intro hge (And.intro hgr hnn))))))
  clear s1 s2 r1 r2 hl1 hb hlb hlr hge hgr hbr hnn
  go_wp2_with (first
    | (refine wpList_load_mid rfl 26 _ rfl b 0 rfl (CV e f o m B mn rn a1 n n).toList _ (range_of S1.out) Try.underlying26 rfl (by kernel_rfl) ?_)
    | (refine wpList_store_row rfl 26 _ _ rfl r (CV e f o m B mn rn a1 n n) (by rfl) (by rfl) 26 PZ26 S2.out (by kernel_rfl) (by kernel_rfl) (by kernel_rfl) ?_))
  obtain ⟨x1, x2, x3, x4, x5, x6, x7⟩ := H.out
  have y1 := strs_only (strs_only x1 (only_set w1 b 7 (.slice a1 n n)) x3) (only_row _ r (CV e f o m B mn rn a1 n n)) x4
  have hr9 := row_setRow (ds := CV e f o m B mn rn a1 n n) S2.out
  exact bodyPost_ret (v := .agg (CV e f o m B mn rn a1 n n)) (results_cell Try.results6 (by rfl) (run_loadVar_mid _ r 0 26 _ _ (range_of hr9) Try.underlying26 rfl (by kernel_rfl))) rfl ⟨a1, rfl, y1, below_setRow (x2.setCell x5 _) x6 _, x7⟩


end Go.Proofs.Ytfbjlgjlbndmkaa
