import Derived.Test.YtfbjlgjlbndmkaaKit
import Derived.Test.YtfbjlgjlbndmkaaFcD
namespace Go.Proofs.Ytfbjlgjlbndmkaa
open Go.ChangeShapes Go.WideShapes Go.ChangeAt Go.RowKit
set_option linter.unusedVariables false
set_option maxRecDepth 100000
set_option maxHeartbeats 2000000

noncomputable def rg7 : List Oper := ((Try.f7.body.map regOf).getD []).getD 1 []
/-- A config as a value. -/
def CV (e : ByteArray) (f o m B : Int) (mn rn : Bool) (a : Option Addr) (n c : Nat) : Array Value := #[.int .u16 B, .string e, .int .u64 f, .int .u64 o, .int .u64 m, .bool mn, .bool rn, .slice a n c]
theorem g7_0 : ((List.range 15).all fun i => stepOk rg7.toArray 47 (0 + i)) = true := by kernel_rfl
theorem g7_1 : ((List.range 15).all fun i => stepOk rg7.toArray 47 (15 + i)) = true := by kernel_rfl
theorem g7_2 : ((List.range 15).all fun i => stepOk rg7.toArray 47 (30 + i)) = true := by kernel_rfl
theorem g7 (j : Nat) (h : j < 45) : stepOk rg7.toArray 47 j = true := by
  by_cases h0 : j < 15; · exact chunk g7_0 j (by omega) (by omega)
  by_cases h0 : j < 30; · exact chunk g7_1 j (by omega) (by omega)
  exact chunk g7_2 j (by omega) (by omega)
theorem sel7 : Region.noSelect rg7.toArray = true := by kernel_rfl
def L7 (b r : Nat) (e : ByteArray) (f o m B : Int) (mn rn : Bool) (a : Option Addr) (n c : Nat) : List Value := [.agg (CV e f o m B mn rn a n c), .pointer (some ⟨b, 0, none⟩), .pointer (some ⟨r, 0, none⟩), undef, .pointer (some ⟨b, 0, none⟩), .int .u16 B, .bool (bitB B 0), .pointer (some ⟨b, 0, none⟩), .int .u16 B, .bool (bitB B 1), .pointer (some ⟨b, 0, none⟩), .int .u16 B, .bool (bitB B 2), .pointer (some ⟨b, 0, none⟩), .int .u16 B, .bool (bitB B 3), .pointer (some ⟨b, 0, none⟩), .int .u16 B, .bool (bitB B 4), .pointer (some ⟨b, 0, none⟩), .int .u16 B, .bool (bitB B 5), .pointer (some ⟨b, 0, none⟩), .int .u16 B, .bool (bitB B 6), .pointer (some ⟨b, 0, none⟩), .int .u16 B, .bool (bitB B 7), .pointer (some ⟨b, 0, none⟩), .int .u16 B, .bool (bitB B 8), .pointer (some ⟨b, 0, none⟩), .int .u16 B, .bool (bitB B 9), .pointer (some ⟨b, 0, none⟩), .int .u16 B, .bool (bitB B 10), .pointer (some ⟨b, 1, none⟩), .string e, .pointer (some ⟨b, 2, none⟩), .int .u64 f, .pointer (some ⟨b, 3, none⟩), .int .u64 o, .pointer (some ⟨b, 4, none⟩), .int .u64 m, .pointer (some ⟨b, 7, none⟩), .slice a n c]
/-- What every operation of the region finds. -/
def S7 (w : World) (b r : Nat) (e : ByteArray) (f o m B : Int) (mn rn : Bool) (a : Option Addr) (n c : Nat) (w' : World) : Prop := RowAt w' b (CV e f o m B mn rn a n c) 26 ∧ RowAt w' r PZ66 66 ∧ Below w.heap.size w w'
theorem s7_row {w w' : World} {b r : Nat} (e : ByteArray) (f o m B : Int) (mn rn : Bool) (a : Option Addr) (n c : Nat) (h : S7 w b r e f o m B mn rn a n c w') : RowAt w' b (CV e f o m B mn rn a n c) 26 := h.1
/-- The frame behind the region. -/
def F7 (b r p : Nat) (a' : Option Addr) (e : ByteArray) (f o m B : Int) (mn rn : Bool) (a : Option Addr) (n c : Nat) : Act := ⟨#[.agg (CV e f o m B mn rn a n c), .pointer (some ⟨b, 0, none⟩), .pointer (some ⟨r, 0, none⟩), .pointer (some ⟨p, 0, none⟩), .pointer (some ⟨b, 0, none⟩), .int .u16 B, .bool (bitB B 0), .pointer (some ⟨b, 0, none⟩), .int .u16 B, .bool (bitB B 1), .pointer (some ⟨b, 0, none⟩), .int .u16 B, .bool (bitB B 2), .pointer (some ⟨b, 0, none⟩), .int .u16 B, .bool (bitB B 3), .pointer (some ⟨b, 0, none⟩), .int .u16 B, .bool (bitB B 4), .pointer (some ⟨b, 0, none⟩), .int .u16 B, .bool (bitB B 5), .pointer (some ⟨b, 0, none⟩), .int .u16 B, .bool (bitB B 6), .pointer (some ⟨b, 0, none⟩), .int .u16 B, .bool (bitB B 7), .pointer (some ⟨b, 0, none⟩), .int .u16 B, .bool (bitB B 8), .pointer (some ⟨b, 0, none⟩), .int .u16 B, .bool (bitB B 9), .pointer (some ⟨b, 0, none⟩), .int .u16 B, .bool (bitB B 10), .pointer (some ⟨b, 1, none⟩), .string e, .pointer (some ⟨b, 2, none⟩), .int .u64 f, .pointer (some ⟨b, 3, none⟩), .int .u64 o, .pointer (some ⟨b, 4, none⟩), .int .u64 m, .pointer (some ⟨b, 7, none⟩), .slice a n c, .slice a' n n, .agg (A92 e f o m B (.slice a' n n) (.pointer none) (.pointer none)), undef, undef, undef, undef, undef, undef, undef, undef, undef, undef, undef], []⟩
theorem s7_later {w w' w1 : World} {b r : Nat} {e : ByteArray} {f o m B : Int} {mn rn : Bool} {a : Option Addr} {n c : Nat} (h : S7 w b r e f o m B mn rn a n c w') (hb : Below w'.heap.size w' w1) : S7 w b r e f o m B mn rn a n c w1 := ⟨h.1.below hb h.1.lt, h.2.1.below hb h.2.1.lt, h.2.2.trans (hb.mono h.2.2.size)⟩
theorem s7_alloc {w w' : World} {b r : Nat} {e : ByteArray} {f o m B : Int} {mn rn : Bool} {a : Option Addr} {n c : Nat} (h : S7 w b r e f o m B mn rn a n c w') (ob : Obj) : S7 w b r e f o m B mn rn a n c (w'.alloc ob) := ⟨h.1.alloc _, h.2.1.alloc _, h.2.2.alloc h.2.2.size _⟩
theorem s7_setRow {w w' : World} {b r p : Nat} {e : ByteArray} {f o m B : Int} {mn rn : Bool} {a : Option Addr} {n c : Nat} (h : S7 w b r e f o m B mn rn a n c w') (hb : p ≠ b) (hr : p ≠ r) (hp : w.heap.size ≤ p) (cs : Array Value) : S7 w b r e f o m B mn rn a n c (w'.setRow p cs) :=
  ⟨(setRow_other w' p b cs (Ne.symm hb)).trans h.1, (setRow_other w' p r cs (Ne.symm hr)).trans h.2.1, below_setRow h.2.2 hp _⟩
theorem cell_setRow {w : World} {p : Nat} {x : Addr} (cs : Array Value) (h : x.block ≠ p) : (w.setRow p cs).cell? x = w.cell? x := by
  unfold World.cell?
  rw [setRow_other w p x.block cs h]
theorem add_block (x : Addr) (i : Nat) : (x.add i).block = x.block := by
  unfold Addr.add
  split <;> rfl
theorem strs_setRow {w : World} {p : Nat} {a : Option Addr} {n c : Nat} {Sx : Nat → ByteArray} (h : IsStrs w a n c Sx) (hq : ∀ x i, a = some x → i < c → (x.add i).block ≠ p) (cs : Array Value) : IsStrs (w.setRow p cs) a n c Sx := by
  rcases h with h | ⟨x, hx, hl, hc, hcell⟩
  · exact .inl h
  · exact .inr ⟨x, hx, hl, hc, fun i hi => ⟨(cell_setRow cs (hq x i hx hi)).trans (hcell i hi).1, (hcell i hi).2⟩⟩
set_option maxHeartbeats 8000000 in
theorem region7 {Q : Exit → Act → World → Prop} (hQ : ∀ c a d v w, Q (.panic c) (a.put d v) w → Q (.panic c) a w) (w W : World) (b r : Nat) (e : ByteArray) (f o m B : Int) (mn rn : Bool) (a : Option Addr) (n c : Nat) (Sx : Nat → ByteArray) (h0 : 0 ≤ B) (h1 : B < 65536) (hn : n ≤ 1048576) (hx : IsStrs w a n c Sx)
    (hbr : w.heap.size ≤ r) (hbb : w.heap.size ≤ b) (hS : S7 w b r e f o m B mn rn a n c W) (hend : ∀ p a' W', w.heap.size ≤ p → p ≠ b → p ≠ r → S7 w b r e f o m B mn rn a n c W' → RowAt W' p (A92 e f o m B (.slice a' n n) (.pointer none) (.pointer none)) 92 → IsStrs W' a' n n Sx → (∀ x i, a' = some x → i < n → (x.add i).block ≠ p) → (∀ x i, a' = some x → i < n → (x.add i).block ≠ r) → Q .normal (F7 b r p a' e f o m B mn rn a n c) W') :
    (Code.region 1 rg7.toArray true).wp Try.prog Q (cutAct (L7 b r e f o m B mn rn a n c) 60 3) W := by
  refine wp_region_held_drew (S := S7 w b r e f o m B mn rn a n c) (by kernel_rfl) (⟨hS.1, hS.2.1, below_drewN hS.2.2 1⟩ : S7 w b r e f o m B mn rn a n c W.drew) (fun hS => ?_)
  rw [show rg7.toArray.size = 47 from by kernel_rfl, ← Lk_zero 47]
  refine (?_ : wpAnyH Try.prog .any rg7.toArray Q (S7 w b r e f o m B mn rn a n c) 47 (Lk 47 0) (cutAct (L7 b r e f o m B mn rn a n c) 60 4) W.drew)
  refine held_to (a' := cutAct (L7 b r e f o m B mn rn a n c) 60 5) 0 47 (d := some 4) (v := .pointer (some ⟨b, 0, none⟩)) (by kernel_rfl) (by kernel_rfl) sel7 (g7 0 (by omega)) (fun c a w => hQ c a (some 4) _ w) (by kernel_rfl) (fun _ _ => by kernel_rfl) hS (by kernel_rfl) ?_
  refine held_to (a' := cutAct (L7 b r e f o m B mn rn a n c) 60 6) 1 47 (d := some 5) (v := .int .u16 B) (by kernel_rfl) (by kernel_rfl) sel7 (g7 1 (by omega)) (fun c a w => hQ c a (some 5) _ w) (by kernel_rfl) (fun _ hS => run_ld (T := 22) (x := .tmp 4) (by kernel_rfl) (by kernel_rfl) (run_ld1 ⟨b, 0, none⟩ 22 _ _ (by kernel_rfl) (hS.1.cellv (j := 0) (by rfl)))) hS (by kernel_rfl) ?_
  refine held_call (a' := cutAct (L7 b r e f o m B mn rn a n c) 60 7) 2 47 (d := some 6) (v := .bool (bitB B 0)) (by kernel_rfl) (by kernel_rfl) sel7 (g7 2 (by omega)) (fun c a w => hQ c a (some 6) _ w) (by kernel_rfl) 11 #[.int .u16 B, .int .u64 0] (fun _ => by kernel_rfl) (fun w _ => bit11 B 0 w h0 h1 (by omega) (by omega)) hS (by kernel_rfl) ?_
  refine held_to (a' := cutAct (L7 b r e f o m B mn rn a n c) 60 8) 3 47 (d := some 7) (v := .pointer (some ⟨b, 0, none⟩)) (by kernel_rfl) (by kernel_rfl) sel7 (g7 3 (by omega)) (fun c a w => hQ c a (some 7) _ w) (by kernel_rfl) (fun _ _ => by kernel_rfl) hS (by kernel_rfl) ?_
  refine held_to (a' := cutAct (L7 b r e f o m B mn rn a n c) 60 9) 4 47 (d := some 8) (v := .int .u16 B) (by kernel_rfl) (by kernel_rfl) sel7 (g7 4 (by omega)) (fun c a w => hQ c a (some 8) _ w) (by kernel_rfl) (fun _ hS => run_ld (T := 22) (x := .tmp 7) (by kernel_rfl) (by kernel_rfl) (run_ld1 ⟨b, 0, none⟩ 22 _ _ (by kernel_rfl) (hS.1.cellv (j := 0) (by rfl)))) hS (by kernel_rfl) ?_
  refine held_call (a' := cutAct (L7 b r e f o m B mn rn a n c) 60 10) 5 47 (d := some 9) (v := .bool (bitB B 1)) (by kernel_rfl) (by kernel_rfl) sel7 (g7 5 (by omega)) (fun c a w => hQ c a (some 9) _ w) (by kernel_rfl) 11 #[.int .u16 B, .int .u64 1] (fun _ => by kernel_rfl) (fun w _ => bit11 B 1 w h0 h1 (by omega) (by omega)) hS (by kernel_rfl) ?_
  refine held_to (a' := cutAct (L7 b r e f o m B mn rn a n c) 60 11) 6 47 (d := some 10) (v := .pointer (some ⟨b, 0, none⟩)) (by kernel_rfl) (by kernel_rfl) sel7 (g7 6 (by omega)) (fun c a w => hQ c a (some 10) _ w) (by kernel_rfl) (fun _ _ => by kernel_rfl) hS (by kernel_rfl) ?_
  refine held_to (a' := cutAct (L7 b r e f o m B mn rn a n c) 60 12) 7 47 (d := some 11) (v := .int .u16 B) (by kernel_rfl) (by kernel_rfl) sel7 (g7 7 (by omega)) (fun c a w => hQ c a (some 11) _ w) (by kernel_rfl) (fun _ hS => run_ld (T := 22) (x := .tmp 10) (by kernel_rfl) (by kernel_rfl) (run_ld1 ⟨b, 0, none⟩ 22 _ _ (by kernel_rfl) (hS.1.cellv (j := 0) (by rfl)))) hS (by kernel_rfl) ?_
  refine held_call (a' := cutAct (L7 b r e f o m B mn rn a n c) 60 13) 8 47 (d := some 12) (v := .bool (bitB B 2)) (by kernel_rfl) (by kernel_rfl) sel7 (g7 8 (by omega)) (fun c a w => hQ c a (some 12) _ w) (by kernel_rfl) 11 #[.int .u16 B, .int .u64 2] (fun _ => by kernel_rfl) (fun w _ => bit11 B 2 w h0 h1 (by omega) (by omega)) hS (by kernel_rfl) ?_
  refine held_to (a' := cutAct (L7 b r e f o m B mn rn a n c) 60 14) 9 47 (d := some 13) (v := .pointer (some ⟨b, 0, none⟩)) (by kernel_rfl) (by kernel_rfl) sel7 (g7 9 (by omega)) (fun c a w => hQ c a (some 13) _ w) (by kernel_rfl) (fun _ _ => by kernel_rfl) hS (by kernel_rfl) ?_
  refine held_to (a' := cutAct (L7 b r e f o m B mn rn a n c) 60 15) 10 47 (d := some 14) (v := .int .u16 B) (by kernel_rfl) (by kernel_rfl) sel7 (g7 10 (by omega)) (fun c a w => hQ c a (some 14) _ w) (by kernel_rfl) (fun _ hS => run_ld (T := 22) (x := .tmp 13) (by kernel_rfl) (by kernel_rfl) (run_ld1 ⟨b, 0, none⟩ 22 _ _ (by kernel_rfl) (hS.1.cellv (j := 0) (by rfl)))) hS (by kernel_rfl) ?_
  refine held_call (a' := cutAct (L7 b r e f o m B mn rn a n c) 60 16) 11 47 (d := some 15) (v := .bool (bitB B 3)) (by kernel_rfl) (by kernel_rfl) sel7 (g7 11 (by omega)) (fun c a w => hQ c a (some 15) _ w) (by kernel_rfl) 11 #[.int .u16 B, .int .u64 3] (fun _ => by kernel_rfl) (fun w _ => bit11 B 3 w h0 h1 (by omega) (by omega)) hS (by kernel_rfl) ?_
  refine held_to (a' := cutAct (L7 b r e f o m B mn rn a n c) 60 17) 12 47 (d := some 16) (v := .pointer (some ⟨b, 0, none⟩)) (by kernel_rfl) (by kernel_rfl) sel7 (g7 12 (by omega)) (fun c a w => hQ c a (some 16) _ w) (by kernel_rfl) (fun _ _ => by kernel_rfl) hS (by kernel_rfl) ?_
  refine held_to (a' := cutAct (L7 b r e f o m B mn rn a n c) 60 18) 13 47 (d := some 17) (v := .int .u16 B) (by kernel_rfl) (by kernel_rfl) sel7 (g7 13 (by omega)) (fun c a w => hQ c a (some 17) _ w) (by kernel_rfl) (fun _ hS => run_ld (T := 22) (x := .tmp 16) (by kernel_rfl) (by kernel_rfl) (run_ld1 ⟨b, 0, none⟩ 22 _ _ (by kernel_rfl) (hS.1.cellv (j := 0) (by rfl)))) hS (by kernel_rfl) ?_
  refine held_call (a' := cutAct (L7 b r e f o m B mn rn a n c) 60 19) 14 47 (d := some 18) (v := .bool (bitB B 4)) (by kernel_rfl) (by kernel_rfl) sel7 (g7 14 (by omega)) (fun c a w => hQ c a (some 18) _ w) (by kernel_rfl) 11 #[.int .u16 B, .int .u64 4] (fun _ => by kernel_rfl) (fun w _ => bit11 B 4 w h0 h1 (by omega) (by omega)) hS (by kernel_rfl) ?_
  refine held_to (a' := cutAct (L7 b r e f o m B mn rn a n c) 60 20) 15 47 (d := some 19) (v := .pointer (some ⟨b, 0, none⟩)) (by kernel_rfl) (by kernel_rfl) sel7 (g7 15 (by omega)) (fun c a w => hQ c a (some 19) _ w) (by kernel_rfl) (fun _ _ => by kernel_rfl) hS (by kernel_rfl) ?_
  refine held_to (a' := cutAct (L7 b r e f o m B mn rn a n c) 60 21) 16 47 (d := some 20) (v := .int .u16 B) (by kernel_rfl) (by kernel_rfl) sel7 (g7 16 (by omega)) (fun c a w => hQ c a (some 20) _ w) (by kernel_rfl) (fun _ hS => run_ld (T := 22) (x := .tmp 19) (by kernel_rfl) (by kernel_rfl) (run_ld1 ⟨b, 0, none⟩ 22 _ _ (by kernel_rfl) (hS.1.cellv (j := 0) (by rfl)))) hS (by kernel_rfl) ?_
  refine held_call (a' := cutAct (L7 b r e f o m B mn rn a n c) 60 22) 17 47 (d := some 21) (v := .bool (bitB B 5)) (by kernel_rfl) (by kernel_rfl) sel7 (g7 17 (by omega)) (fun c a w => hQ c a (some 21) _ w) (by kernel_rfl) 11 #[.int .u16 B, .int .u64 5] (fun _ => by kernel_rfl) (fun w _ => bit11 B 5 w h0 h1 (by omega) (by omega)) hS (by kernel_rfl) ?_
  refine held_to (a' := cutAct (L7 b r e f o m B mn rn a n c) 60 23) 18 47 (d := some 22) (v := .pointer (some ⟨b, 0, none⟩)) (by kernel_rfl) (by kernel_rfl) sel7 (g7 18 (by omega)) (fun c a w => hQ c a (some 22) _ w) (by kernel_rfl) (fun _ _ => by kernel_rfl) hS (by kernel_rfl) ?_
  refine held_to (a' := cutAct (L7 b r e f o m B mn rn a n c) 60 24) 19 47 (d := some 23) (v := .int .u16 B) (by kernel_rfl) (by kernel_rfl) sel7 (g7 19 (by omega)) (fun c a w => hQ c a (some 23) _ w) (by kernel_rfl) (fun _ hS => run_ld (T := 22) (x := .tmp 22) (by kernel_rfl) (by kernel_rfl) (run_ld1 ⟨b, 0, none⟩ 22 _ _ (by kernel_rfl) (hS.1.cellv (j := 0) (by rfl)))) hS (by kernel_rfl) ?_
  refine held_call (a' := cutAct (L7 b r e f o m B mn rn a n c) 60 25) 20 47 (d := some 24) (v := .bool (bitB B 6)) (by kernel_rfl) (by kernel_rfl) sel7 (g7 20 (by omega)) (fun c a w => hQ c a (some 24) _ w) (by kernel_rfl) 11 #[.int .u16 B, .int .u64 6] (fun _ => by kernel_rfl) (fun w _ => bit11 B 6 w h0 h1 (by omega) (by omega)) hS (by kernel_rfl) ?_
  refine held_to (a' := cutAct (L7 b r e f o m B mn rn a n c) 60 26) 21 47 (d := some 25) (v := .pointer (some ⟨b, 0, none⟩)) (by kernel_rfl) (by kernel_rfl) sel7 (g7 21 (by omega)) (fun c a w => hQ c a (some 25) _ w) (by kernel_rfl) (fun _ _ => by kernel_rfl) hS (by kernel_rfl) ?_
  refine held_to (a' := cutAct (L7 b r e f o m B mn rn a n c) 60 27) 22 47 (d := some 26) (v := .int .u16 B) (by kernel_rfl) (by kernel_rfl) sel7 (g7 22 (by omega)) (fun c a w => hQ c a (some 26) _ w) (by kernel_rfl) (fun _ hS => run_ld (T := 22) (x := .tmp 25) (by kernel_rfl) (by kernel_rfl) (run_ld1 ⟨b, 0, none⟩ 22 _ _ (by kernel_rfl) (hS.1.cellv (j := 0) (by rfl)))) hS (by kernel_rfl) ?_
  refine held_call (a' := cutAct (L7 b r e f o m B mn rn a n c) 60 28) 23 47 (d := some 27) (v := .bool (bitB B 7)) (by kernel_rfl) (by kernel_rfl) sel7 (g7 23 (by omega)) (fun c a w => hQ c a (some 27) _ w) (by kernel_rfl) 11 #[.int .u16 B, .int .u64 7] (fun _ => by kernel_rfl) (fun w _ => bit11 B 7 w h0 h1 (by omega) (by omega)) hS (by kernel_rfl) ?_
  refine held_to (a' := cutAct (L7 b r e f o m B mn rn a n c) 60 29) 24 47 (d := some 28) (v := .pointer (some ⟨b, 0, none⟩)) (by kernel_rfl) (by kernel_rfl) sel7 (g7 24 (by omega)) (fun c a w => hQ c a (some 28) _ w) (by kernel_rfl) (fun _ _ => by kernel_rfl) hS (by kernel_rfl) ?_
  refine held_to (a' := cutAct (L7 b r e f o m B mn rn a n c) 60 30) 25 47 (d := some 29) (v := .int .u16 B) (by kernel_rfl) (by kernel_rfl) sel7 (g7 25 (by omega)) (fun c a w => hQ c a (some 29) _ w) (by kernel_rfl) (fun _ hS => run_ld (T := 22) (x := .tmp 28) (by kernel_rfl) (by kernel_rfl) (run_ld1 ⟨b, 0, none⟩ 22 _ _ (by kernel_rfl) (hS.1.cellv (j := 0) (by rfl)))) hS (by kernel_rfl) ?_
  refine held_call (a' := cutAct (L7 b r e f o m B mn rn a n c) 60 31) 26 47 (d := some 30) (v := .bool (bitB B 8)) (by kernel_rfl) (by kernel_rfl) sel7 (g7 26 (by omega)) (fun c a w => hQ c a (some 30) _ w) (by kernel_rfl) 11 #[.int .u16 B, .int .u64 8] (fun _ => by kernel_rfl) (fun w _ => bit11 B 8 w h0 h1 (by omega) (by omega)) hS (by kernel_rfl) ?_
  refine held_to (a' := cutAct (L7 b r e f o m B mn rn a n c) 60 32) 27 47 (d := some 31) (v := .pointer (some ⟨b, 0, none⟩)) (by kernel_rfl) (by kernel_rfl) sel7 (g7 27 (by omega)) (fun c a w => hQ c a (some 31) _ w) (by kernel_rfl) (fun _ _ => by kernel_rfl) hS (by kernel_rfl) ?_
  refine held_to (a' := cutAct (L7 b r e f o m B mn rn a n c) 60 33) 28 47 (d := some 32) (v := .int .u16 B) (by kernel_rfl) (by kernel_rfl) sel7 (g7 28 (by omega)) (fun c a w => hQ c a (some 32) _ w) (by kernel_rfl) (fun _ hS => run_ld (T := 22) (x := .tmp 31) (by kernel_rfl) (by kernel_rfl) (run_ld1 ⟨b, 0, none⟩ 22 _ _ (by kernel_rfl) (hS.1.cellv (j := 0) (by rfl)))) hS (by kernel_rfl) ?_
  refine held_call (a' := cutAct (L7 b r e f o m B mn rn a n c) 60 34) 29 47 (d := some 33) (v := .bool (bitB B 9)) (by kernel_rfl) (by kernel_rfl) sel7 (g7 29 (by omega)) (fun c a w => hQ c a (some 33) _ w) (by kernel_rfl) 11 #[.int .u16 B, .int .u64 9] (fun _ => by kernel_rfl) (fun w _ => bit11 B 9 w h0 h1 (by omega) (by omega)) hS (by kernel_rfl) ?_
  refine held_to (a' := cutAct (L7 b r e f o m B mn rn a n c) 60 35) 30 47 (d := some 34) (v := .pointer (some ⟨b, 0, none⟩)) (by kernel_rfl) (by kernel_rfl) sel7 (g7 30 (by omega)) (fun c a w => hQ c a (some 34) _ w) (by kernel_rfl) (fun _ _ => by kernel_rfl) hS (by kernel_rfl) ?_
  refine held_to (a' := cutAct (L7 b r e f o m B mn rn a n c) 60 36) 31 47 (d := some 35) (v := .int .u16 B) (by kernel_rfl) (by kernel_rfl) sel7 (g7 31 (by omega)) (fun c a w => hQ c a (some 35) _ w) (by kernel_rfl) (fun _ hS => run_ld (T := 22) (x := .tmp 34) (by kernel_rfl) (by kernel_rfl) (run_ld1 ⟨b, 0, none⟩ 22 _ _ (by kernel_rfl) (hS.1.cellv (j := 0) (by rfl)))) hS (by kernel_rfl) ?_
  refine held_call (a' := cutAct (L7 b r e f o m B mn rn a n c) 60 37) 32 47 (d := some 36) (v := .bool (bitB B 10)) (by kernel_rfl) (by kernel_rfl) sel7 (g7 32 (by omega)) (fun c a w => hQ c a (some 36) _ w) (by kernel_rfl) 11 #[.int .u16 B, .int .u64 10] (fun _ => by kernel_rfl) (fun w _ => bit11 B 10 w h0 h1 (by omega) (by omega)) hS (by kernel_rfl) ?_
  refine held_to (a' := cutAct (L7 b r e f o m B mn rn a n c) 60 38) 33 47 (d := some 37) (v := .pointer (some ⟨b, 1, none⟩)) (by kernel_rfl) (by kernel_rfl) sel7 (g7 33 (by omega)) (fun c a w => hQ c a (some 37) _ w) (by kernel_rfl) (fun _ _ => by kernel_rfl) hS (by kernel_rfl) ?_
  refine held_to (a' := cutAct (L7 b r e f o m B mn rn a n c) 60 39) 34 47 (d := some 38) (v := .string e) (by kernel_rfl) (by kernel_rfl) sel7 (g7 34 (by omega)) (fun c a w => hQ c a (some 38) _ w) (by kernel_rfl) (fun _ hS => run_ld (T := 9) (x := .tmp 37) (by kernel_rfl) (by kernel_rfl) (run_ld1 ⟨b, 1, none⟩ 9 _ _ (by kernel_rfl) (hS.1.cellv (j := 1) (by rfl)))) hS (by kernel_rfl) ?_
  refine held_to (a' := cutAct (L7 b r e f o m B mn rn a n c) 60 40) 35 47 (d := some 39) (v := .pointer (some ⟨b, 2, none⟩)) (by kernel_rfl) (by kernel_rfl) sel7 (g7 35 (by omega)) (fun c a w => hQ c a (some 39) _ w) (by kernel_rfl) (fun _ _ => by kernel_rfl) hS (by kernel_rfl) ?_
  refine held_to (a' := cutAct (L7 b r e f o m B mn rn a n c) 60 41) 36 47 (d := some 40) (v := .int .u64 f) (by kernel_rfl) (by kernel_rfl) sel7 (g7 36 (by omega)) (fun c a w => hQ c a (some 40) _ w) (by kernel_rfl) (fun _ hS => run_ld (T := 23) (x := .tmp 39) (by kernel_rfl) (by kernel_rfl) (run_ld1 ⟨b, 2, none⟩ 23 _ _ (by kernel_rfl) (hS.1.cellv (j := 2) (by rfl)))) hS (by kernel_rfl) ?_
  refine held_to (a' := cutAct (L7 b r e f o m B mn rn a n c) 60 42) 37 47 (d := some 41) (v := .pointer (some ⟨b, 3, none⟩)) (by kernel_rfl) (by kernel_rfl) sel7 (g7 37 (by omega)) (fun c a w => hQ c a (some 41) _ w) (by kernel_rfl) (fun _ _ => by kernel_rfl) hS (by kernel_rfl) ?_
  refine held_to (a' := cutAct (L7 b r e f o m B mn rn a n c) 60 43) 38 47 (d := some 42) (v := .int .u64 o) (by kernel_rfl) (by kernel_rfl) sel7 (g7 38 (by omega)) (fun c a w => hQ c a (some 42) _ w) (by kernel_rfl) (fun _ hS => run_ld (T := 23) (x := .tmp 41) (by kernel_rfl) (by kernel_rfl) (run_ld1 ⟨b, 3, none⟩ 23 _ _ (by kernel_rfl) (hS.1.cellv (j := 3) (by rfl)))) hS (by kernel_rfl) ?_
  refine held_to (a' := cutAct (L7 b r e f o m B mn rn a n c) 60 44) 39 47 (d := some 43) (v := .pointer (some ⟨b, 4, none⟩)) (by kernel_rfl) (by kernel_rfl) sel7 (g7 39 (by omega)) (fun c a w => hQ c a (some 43) _ w) (by kernel_rfl) (fun _ _ => by kernel_rfl) hS (by kernel_rfl) ?_
  refine held_to (a' := cutAct (L7 b r e f o m B mn rn a n c) 60 45) 40 47 (d := some 44) (v := .int .u64 m) (by kernel_rfl) (by kernel_rfl) sel7 (g7 40 (by omega)) (fun c a w => hQ c a (some 44) _ w) (by kernel_rfl) (fun _ hS => run_ld (T := 23) (x := .tmp 43) (by kernel_rfl) (by kernel_rfl) (run_ld1 ⟨b, 4, none⟩ 23 _ _ (by kernel_rfl) (hS.1.cellv (j := 4) (by rfl)))) hS (by kernel_rfl) ?_
  refine held_to (a' := cutAct (L7 b r e f o m B mn rn a n c) 60 46) 41 47 (d := some 45) (v := .pointer (some ⟨b, 7, none⟩)) (by kernel_rfl) (by kernel_rfl) sel7 (g7 41 (by omega)) (fun c a w => hQ c a (some 45) _ w) (by kernel_rfl) (fun _ _ => by kernel_rfl) hS (by kernel_rfl) ?_
  refine held_to (a' := cutAct (L7 b r e f o m B mn rn a n c) 60 47) 42 47 (d := some 46) (v := .slice a n c) (by kernel_rfl) (by kernel_rfl) sel7 (g7 42 (by omega)) (fun c a w => hQ c a (some 46) _ w) (by kernel_rfl) (fun _ hS => run_ld (T := 24) (x := .tmp 45) (by kernel_rfl) (by kernel_rfl) (run_ld1 ⟨b, 7, none⟩ 24 _ _ (by kernel_rfl) (hS.1.cellv (j := 7) (by rfl)))) hS (by kernel_rfl) ?_
  refine held_ready2 43 45 (by kernel_rfl) (by kernel_rfl) (by kernel_rfl) (by kernel_rfl) (by kernel_rfl) ?_ ?_
  · refine wp_enter (d := some 47) (f := 10) (args := #[.slice a n c]) (by kernel_rfl) (by kernel_rfl) ?_
    refine (clone10 a n c Sx _ hn (strs_later hx hS.2.2 (Nat.le_refl _))).mono ?_
    rintro e1 w1 ⟨a', rfl, hl, hb1, hnew⟩
    refine ⟨_, rfl, s7_later hS hb1, ?_⟩
    have hS1 := s7_later hS hb1
    have HNR : ∀ x i, a' = some x → i < n → (x.add i).block ≠ r := fun x i hx hi => by
      have h1 := hnew x hx
      have h2 := hS.2.1.lt
      rw [add_block]
      omega
    rw [Lk_succ]
    refine held_to 44 47 (v := .agg (A92 e f o m B (.slice a' n n) (.pointer none) (.pointer none))) (d := some 48) (by kernel_rfl) (by kernel_rfl) sel7 (g7 44 (by omega)) (fun c a w => hQ c a (some 48) _ w) (by kernel_rfl) (fun _ _ => run_bd (T := 92) (parts := #[(67, .tmp 6), (68, .tmp 9), (53, .tmp 12), (52, .tmp 15), (51, .tmp 18), (65, .tmp 21), (66, .tmp 24), (69, .tmp 27), (70, .tmp 30), (71, .tmp 33), (72, .tmp 36), (7, .tmp 38), (42, .tmp 40), (44, .tmp 42), (45, .tmp 44), (8, .tmp 47)]) (vs := p92 e f o m B (.slice a' n n)) (by kernel_rfl) (by kernel_rfl) (build92 e f o m B a' n _)) hS1 rfl ?_
    refine held_ready1 45 (by kernel_rfl) (by kernel_rfl) (by kernel_rfl) ?_
    refine wp_value (d := some 3) (by kernel_rfl) (run_alloc_of (T := 92) (by kernel_rfl) (zv92 _)) ?_
    have hS2 := s7_alloc hS1 (.cells PZ92 92)
    refine ⟨hS2, ?_⟩
    have hp := RowAt.new w1 PZ92 92
    have hpw : w.heap.size ≤ w1.heap.size := hS1.2.2.size
    have HL : IsStrs (w1.alloc (.cells PZ92 92)) a' n n Sx := strs_later hl ((Below.refl _ _).alloc (Nat.le_refl _) _) (Nat.le_refl _)
    have HNE : ∀ x i, a' = some x → i < n → (x.add i).block ≠ w1.heap.size := fun x i hx hi => by
      subst hx
      have := cell_lt (strs_cell hl i hi).1
      omega
    obtain ⟨p, hpe⟩ : ∃ p, w1.heap.size = p := ⟨_, rfl⟩
    rw [hpe] at hp hpw HNE ⊢
    refine held_ready1 46 (by kernel_rfl) (by kernel_rfl) (by kernel_rfl) ?_
    refine wp_store_row 92 (.tmp 3) (.tmp 48) (by kernel_rfl) p (A92 e f o m B (.slice a' n n) (.pointer none) (.pointer none)) (by kernel_rfl) (by kernel_rfl) 92 PZ92 hp (by kernel_rfl) (by kernel_rfl) (a92_one e f o m B a' n none none) ?_
    have hpb : p ≠ b := hp.diff hS2.1 (by decide)
    have hpr : p ≠ r := hp.diff hS2.2.1 (by decide)
    have hS3 := s7_setRow hS2 hpb hpr hpw (A92 e f o m B (.slice a' n n) (.pointer none) (.pointer none))
    refine ⟨hS3, wpAnyH_done (by kernel_rfl) ?_ _⟩
    have hl3 : IsStrs (World.setRow (w1.alloc (.cells PZ92 92)) p (A92 e f o m B (.slice a' n n) (.pointer none) (.pointer none))) a' n n Sx := strs_setRow HL HNE _
    rw [show ((((((cutAct (L7 b r e f o m B mn rn a n c) 60 47).put (some 47) (.slice a' n n)).put (some 48) (.agg (A92 e f o m B (.slice a' n n) (.pointer none) (.pointer none)))).put (some 3) (.pointer (some ⟨p, 0, none⟩))).put (rg7.getD 46 noOper).dst undef) = F7 b r p a' e f o m B mn rn a n c) from (by kernel_rfl)]
    exact hend p a' _ hpw hpb hpr hS3 (row_setRow hp) hl3 HNE HNR
  · refine wp_value (d := some 3) (by kernel_rfl) (run_alloc_of (T := 92) (by kernel_rfl) (zv92 _)) ?_
    have hS2 := s7_alloc hS (.cells PZ92 92)
    refine ⟨hS2, ?_⟩
    have hp := RowAt.new W.drew PZ92 92
    have hpw : w.heap.size ≤ W.drew.heap.size := hS.2.2.size
    obtain ⟨p, hpe⟩ : ∃ p, W.drew.heap.size = p := ⟨_, rfl⟩
    rw [hpe] at hp hpw ⊢
    obtain ⟨W2, hW2⟩ : ∃ W2, W.drew.alloc (.cells PZ92 92) = W2 := ⟨_, rfl⟩
    rw [hW2] at hS2 hp ⊢
    clear hS hW2
    have hS := hS2
    refine held_ready1 43 (by kernel_rfl) (by kernel_rfl) (by kernel_rfl) ?_
    refine wp_enter (d := some 47) (f := 10) (args := #[.slice a n c]) (by kernel_rfl) (by kernel_rfl) ?_
    refine (clone10 a n c Sx _ hn (strs_later hx hS.2.2 (Nat.le_refl _))).mono ?_
    rintro e1 w1 ⟨a', rfl, hl, hb1, hnew⟩
    refine ⟨_, rfl, s7_later hS hb1, ?_⟩
    have hS1 := s7_later hS hb1
    have HNR : ∀ x i, a' = some x → i < n → (x.add i).block ≠ r := fun x i hx hi => by
      have h1 := hnew x hx
      have h2 := hS.2.1.lt
      rw [add_block]
      omega
    refine held_at 44 (v := .agg (A92 e f o m B (.slice a' n n) (.pointer none) (.pointer none))) (d := some 48) (by kernel_rfl) (by kernel_rfl) sel7 (by kernel_rfl) (by kernel_rfl) (fun c a w => hQ c a (some 48) _ w) (by kernel_rfl) (fun _ _ => run_bd (T := 92) (parts := #[(67, .tmp 6), (68, .tmp 9), (53, .tmp 12), (52, .tmp 15), (51, .tmp 18), (65, .tmp 21), (66, .tmp 24), (69, .tmp 27), (70, .tmp 30), (71, .tmp 33), (72, .tmp 36), (7, .tmp 38), (42, .tmp 40), (44, .tmp 42), (45, .tmp 44), (8, .tmp 47)]) (vs := p92 e f o m B (.slice a' n n)) (by kernel_rfl) (by kernel_rfl) (build92 e f o m B a' n _)) hS1 rfl ?_
    have hp1 := hp.below hb1 hp.lt
    have HL := hl
    have HNE : ∀ x i, a' = some x → i < n → (x.add i).block ≠ p := fun x i hx hi => by
      have h1 := hnew x hx
      have h2 := hp.lt
      rw [add_block]
      omega
    refine held_ready1 46 (by kernel_rfl) (by kernel_rfl) (by kernel_rfl) ?_
    refine wp_store_row 92 (.tmp 3) (.tmp 48) (by kernel_rfl) p (A92 e f o m B (.slice a' n n) (.pointer none) (.pointer none)) (by kernel_rfl) (by kernel_rfl) 92 PZ92 hp1 (by kernel_rfl) (by kernel_rfl) (a92_one e f o m B a' n none none) ?_
    have hpb : p ≠ b := hp1.diff hS1.1 (by decide)
    have hpr : p ≠ r := hp1.diff hS1.2.1 (by decide)
    have hS3 := s7_setRow hS1 hpb hpr hpw (A92 e f o m B (.slice a' n n) (.pointer none) (.pointer none))
    refine ⟨hS3, wpAnyH_done (by kernel_rfl) ?_ _⟩
    have hl3 : IsStrs (World.setRow w1 p (A92 e f o m B (.slice a' n n) (.pointer none) (.pointer none))) a' n n Sx := strs_setRow HL HNE _
    rw [show ((((((cutAct (L7 b r e f o m B mn rn a n c) 60 47).put (some 3) (.pointer (some ⟨p, 0, none⟩))).put (some 47) (.slice a' n n)).put (some 48) (.agg (A92 e f o m B (.slice a' n n) (.pointer none) (.pointer none)))).put (rg7.getD 46 noOper).dst undef) = F7 b r p a' e f o m B mn rn a n c) from (by kernel_rfl)]
    exact hend p a' _ hpw hpb hpr hS3 (row_setRow hp1) hl3 HNE HNR


end Go.Proofs.Ytfbjlgjlbndmkaa
