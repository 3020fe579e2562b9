import Derived.Test.YtfbjlgjlbndmkaaKit
import Derived.Test.YtfbjlgjlbndmkaaFcE
import Derived.Test.YtfbjlgjlbndmkaaFcC
import Derived.Laws.CopyOwn
import Derived.Still
namespace Go.Proofs.Ytfbjlgjlbndmkaa
open Go.ChangeShapes Go.WideShapes Go.ChangeAt Go.RowKit
set_option linter.unusedVariables false
set_option maxRecDepth 100000
set_option maxHeartbeats 2000000

theorem ld39 (W : World) (p o : Nat) (g0 : W.cell? ⟨p, o, none⟩ = some (.nilIface)) (g1 : W.cell? ⟨p, o + 1, none⟩ = some (.slice none 0 0)) (g2 : W.cell? ⟨p, o + 2, none⟩ = some (.int .u32 0)) (g3 : W.cell? ⟨p, o + 3, none⟩ = some (.nilIface)) (g4 : W.cell? ⟨p, o + 4, none⟩ = some (.slice none 0 0)) (g5 : W.cell? ⟨p, o + 5, none⟩ = some (.int .u32 0)) (g6 : W.cell? ⟨p, o + 6, none⟩ = some (.bool false)) (g7 : W.cell? ⟨p, o + 7, none⟩ = some (.bool false)) (g8 : W.cell? ⟨p, o + 8, none⟩ = some (.bool false)) (g9 : W.cell? ⟨p, o + 9, none⟩ = some (.string ⟨#[]⟩)) (g10 : W.cell? ⟨p, o + 10, none⟩ = some (.bool false)) (g11 : W.cell? ⟨p, o + 11, none⟩ = some (.bool false)) : (loadVar 39 ⟨p, o, none⟩).run Try.prog W = .ok (.agg #[.nilIface, .slice none 0 0, .int .u32 0, .nilIface, .slice none 0 0, .int .u32 0, .bool false, .bool false, .bool false, .string ⟨#[]⟩, .bool false, .bool false]) W :=
  run_loadVar_mid W p o 39 [.nilIface, .slice none 0 0, .int .u32 0, .nilIface, .slice none 0 0, .int .u32 0, .bool false, .bool false, .bool false, .string ⟨#[]⟩, .bool false, .bool false] _ (fun j v hv => by
    match j, hv with
    | 0, hv => cases hv; exact g0
    | 1, hv => cases hv; exact g1
    | 2, hv => cases hv; exact g2
    | 3, hv => cases hv; exact g3
    | 4, hv => cases hv; exact g4
    | 5, hv => cases hv; exact g5
    | 6, hv => cases hv; exact g6
    | 7, hv => cases hv; exact g7
    | 8, hv => cases hv; exact g8
    | 9, hv => cases hv; exact g9
    | 10, hv => cases hv; exact g10
    | 11, hv => cases hv; exact g11
    | (j + 12), hv => simp at hv) Try.underlying39 rfl (by kernel_rfl)
theorem ld50 (W : World) (p o : Nat) (g0 : W.cell? ⟨p, o, none⟩ = some (.pointer none)) (g1 : W.cell? ⟨p, o + 1, none⟩ = some (.int .i32 0)) (g2 : W.cell? ⟨p, o + 2, none⟩ = some (.int .i32 0)) (g3 : W.cell? ⟨p, o + 3, none⟩ = some (.int .u8 0)) : (loadVar 50 ⟨p, o, none⟩).run Try.prog W = .ok (.agg #[.pointer none, .int .i32 0, .int .i32 0, .int .u8 0]) W :=
  run_loadVar_mid W p o 50 [.pointer none, .int .i32 0, .int .i32 0, .int .u8 0] _ (fun j v hv => by
    match j, hv with
    | 0, hv => cases hv; exact g0
    | 1, hv => cases hv; exact g1
    | 2, hv => cases hv; exact g2
    | 3, hv => cases hv; exact g3
    | (j + 4), hv => simp at hv) Try.underlying50 rfl (by kernel_rfl)
theorem ld58 (W : World) (p o : Nat) (g0 : W.cell? ⟨p, o, none⟩ = some (.int .u8 0)) (g1 : W.cell? ⟨p, o + 1, none⟩ = some (.int .u8 0)) (g2 : W.cell? ⟨p, o + 2, none⟩ = some (.int .u8 0)) (g3 : W.cell? ⟨p, o + 3, none⟩ = some (.int .u8 0)) (g4 : W.cell? ⟨p, o + 4, none⟩ = some (.int .u8 0)) (g5 : W.cell? ⟨p, o + 5, none⟩ = some (.int .u8 0)) (g6 : W.cell? ⟨p, o + 6, none⟩ = some (.bool false)) (g7 : W.cell? ⟨p, o + 7, none⟩ = some (.bool false)) : (loadVar 58 ⟨p, o, none⟩).run Try.prog W = .ok (.agg #[.int .u8 0, .int .u8 0, .int .u8 0, .int .u8 0, .int .u8 0, .int .u8 0, .bool false, .bool false]) W :=
  run_loadVar_mid W p o 58 [.int .u8 0, .int .u8 0, .int .u8 0, .int .u8 0, .int .u8 0, .int .u8 0, .bool false, .bool false] _ (fun j v hv => by
    match j, hv with
    | 0, hv => cases hv; exact g0
    | 1, hv => cases hv; exact g1
    | 2, hv => cases hv; exact g2
    | 3, hv => cases hv; exact g3
    | 4, hv => cases hv; exact g4
    | 5, hv => cases hv; exact g5
    | 6, hv => cases hv; exact g6
    | 7, hv => cases hv; exact g7
    | (j + 8), hv => simp at hv) Try.underlying58 rfl (by kernel_rfl)
def L13 (p r : Nat) (e : ByteArray) (f o m B : Int) (a : Option Addr) (n : Nat) (mp rp : Option Addr) : List Value := [.pointer (some ⟨p, 0, none⟩), undef, .pointer (some ⟨r, 0, none⟩), .pointer (some ⟨p, 0, none⟩), .pointer (some ⟨p, 0, none⟩), .pointer (some ⟨p, 34, none⟩), .slice none 0 0, .pointer (some ⟨p, 0, none⟩), .pointer (some ⟨p, 0, none⟩), .pointer (some ⟨p, 45, none⟩), .agg #[.nilIface, .slice none 0 0, .int .u32 0, .nilIface, .slice none 0 0, .int .u32 0, .bool false, .bool false, .bool false, .string ⟨#[]⟩, .bool false, .bool false], .pointer (some ⟨p, 0, none⟩), .pointer (some ⟨p, 0, none⟩), .pointer (some ⟨p, 4, none⟩), .pointer none, .pointer (some ⟨p, 0, none⟩), .pointer (some ⟨p, 0, none⟩), .pointer (some ⟨p, 5, none⟩), .pointer none, .pointer (some ⟨p, 0, none⟩), .pointer (some ⟨p, 0, none⟩), .pointer (some ⟨p, 6, none⟩), (.pointer mp), .pointer (some ⟨p, 0, none⟩), .pointer (some ⟨p, 0, none⟩), .pointer (some ⟨p, 7, none⟩), (.pointer rp), .pointer (some ⟨p, 0, none⟩), .pointer (some ⟨p, 0, none⟩), .pointer (some ⟨p, 11, none⟩), (.slice a n n), .pointer (some ⟨p, 0, none⟩), .pointer (some ⟨p, 0, none⟩), .pointer (some ⟨p, 59, none⟩), .int .u64 f, .pointer (some ⟨p, 0, none⟩), .pointer (some ⟨p, 0, none⟩), .pointer (some ⟨p, 61, none⟩), .int .u64 o, .pointer (some ⟨p, 0, none⟩), .pointer (some ⟨p, 0, none⟩), .pointer (some ⟨p, 62, none⟩), .int .u64 m, .pointer (some ⟨p, 0, none⟩), .pointer (some ⟨p, 0, none⟩), .pointer (some ⟨p, 10, none⟩), .string e, .pointer (some ⟨p, 0, none⟩), .pointer (some ⟨p, 0, none⟩), .pointer (some ⟨p, 65, none⟩), .agg #[.int .u8 0, .int .u8 0, .int .u8 0, .int .u8 0, .int .u8 0, .int .u8 0, .bool false, .bool false], .pointer (some ⟨p, 0, none⟩), .pointer (some ⟨p, 0, none⟩), .pointer (some ⟨p, 73, none⟩), .int .u8 0, .pointer (some ⟨p, 0, none⟩), .pointer (some ⟨p, 0, none⟩), .pointer (some ⟨p, 97, none⟩), .int .u8 0, .pointer (some ⟨p, 0, none⟩), .pointer (some ⟨p, 0, none⟩), .pointer (some ⟨p, 98, none⟩), .int .u8 0, .pointer (some ⟨p, 0, none⟩), .pointer (some ⟨p, 0, none⟩), .pointer (some ⟨p, 0, none⟩), .agg #[.pointer none, .int .i32 0, .int .i32 0, .int .u8 0], .pointer (some ⟨p, 0, none⟩), .pointer (some ⟨p, 0, none⟩), .pointer (some ⟨p, 91, none⟩), .bool (bitB B 0), .pointer (some ⟨p, 0, none⟩), .pointer (some ⟨p, 0, none⟩), .pointer (some ⟨p, 92, none⟩), .bool (bitB B 1), .pointer (some ⟨p, 0, none⟩), .pointer (some ⟨p, 0, none⟩), .pointer (some ⟨p, 77, none⟩), .bool (bitB B 2), .pointer (some ⟨p, 0, none⟩), .pointer (some ⟨p, 0, none⟩), .pointer (some ⟨p, 76, none⟩), .bool (bitB B 3), .pointer (some ⟨p, 0, none⟩), .pointer (some ⟨p, 0, none⟩), .pointer (some ⟨p, 75, none⟩), .bool (bitB B 4), .pointer (some ⟨p, 0, none⟩), .pointer (some ⟨p, 0, none⟩), .pointer (some ⟨p, 89, none⟩), .bool (bitB B 5), .pointer (some ⟨p, 0, none⟩), .pointer (some ⟨p, 0, none⟩), .pointer (some ⟨p, 90, none⟩), .bool (bitB B 6), .pointer (some ⟨p, 0, none⟩), .pointer (some ⟨p, 0, none⟩), .pointer (some ⟨p, 93, none⟩), .bool (bitB B 7), .pointer (some ⟨p, 0, none⟩), .pointer (some ⟨p, 0, none⟩), .pointer (some ⟨p, 94, none⟩), .bool (bitB B 8), .pointer (some ⟨p, 0, none⟩), .pointer (some ⟨p, 0, none⟩), .pointer (some ⟨p, 95, none⟩), .bool (bitB B 9), .pointer (some ⟨p, 0, none⟩), .pointer (some ⟨p, 0, none⟩), .pointer (some ⟨p, 96, none⟩), .bool (bitB B 10), .pointer (some ⟨p, 0, none⟩), .pointer (some ⟨p, 0, none⟩), .pointer (some ⟨p, 83, none⟩), .int .u8 0, .pointer (some ⟨p, 0, none⟩), .pointer (some ⟨p, 0, none⟩), .pointer (some ⟨p, 84, none⟩), .int .u8 0, .agg (S33 e f o m B), .agg (A66 e f o m B (.slice a n n) (.pointer mp) (.pointer rp))]
theorem rx12 (w : World) : Calls Try.prog 12 #[] w fun e w' => e = .returned (.pointer (some ⟨w.heap.size, 0, none⟩)) ∧ RxAt w' (some w.heap.size) ∧ Below w.heap.size w w' ∧ w.heap.size < w'.heap.size := by
  go_enter Try.func12, Try.ntmps12
  go_wp2
  go_ret
  refine ⟨rfl, fun p hp => ?_, (Below.refl _ _).alloc (Nat.le_refl _) _, by simp⟩
  cases hp
  simp
/-- Options built from the cells of a config. -/
def Opt13 (w : World) (e' : ByteArray) (f o m B : Int) (l mp rp : Value) (e : Ending) (w' : World) : Prop := e = .returned (.agg (A66 e' f o m B l mp rp)) ∧ Below w.heap.size w w'
theorem range_of {w : World} {p : Nat} {cs : Array Value} {t : TypeId} (h : RowAt w p cs t) : w.rangeAt p 0 cs.toList := by
  intro j v hv
  rw [Nat.zero_add]
  exact h.cellv (by simpa using hv)
theorem row_setRow {w : World} {p : Nat} {cs ds : Array Value} {t : TypeId} (h : RowAt w p cs t) : RowAt (w.setRow p ds) p ds t := setRow_heap w p _ _ t _ h
theorem all66 {p : Nat} (W : World) (e : ByteArray) (f o m B : Int) (a : Option Addr) (n : Nat) (mp rp : Option Addr) (h : RowAt W p (A66 e f o m B (.slice a n n) (.pointer mp) (.pointer rp)) 66) :
    (loadVar 66 ⟨p, 0, none⟩).run Try.prog W = .ok (.agg (A66 e f o m B (.slice a n n) (.pointer mp) (.pointer rp))) W :=
  run_loadVar_mid W p 0 66 _ _ (range_of h) Try.underlying66 rfl (by kernel_rfl)
set_option maxHeartbeats 8000000 in
theorem opt13 (p : Nat) (e : ByteArray) (f o m B : Int) (a : Option Addr) (n : Nat) (mp rp : Option Addr) (w : World) (h : RowAt w p (A92 e f o m B (.slice a n n) (.pointer mp) (.pointer rp)) 92) :
    Calls Try.prog 13 #[.pointer (some ⟨p, 0, none⟩)] w (Opt13 w e f o m B (.slice a n n) (.pointer mp) (.pointer rp)) := by
  go_enter Try.func13, Try.ntmps13
  go_wp2_with fail
  have hr0 := RowAt.new w PZ66 66
  have h1 := h.alloc (.cells PZ66 66)
  have hb0 : Below w.heap.size w (w.alloc (.cells PZ66 66)) := (Below.refl _ _).alloc (Nat.le_refl _) _
  obtain ⟨r, hr⟩ : ∃ r, r = w.heap.size := ⟨_, rfl⟩
  obtain ⟨W1, hW1⟩ : ∃ W1, W1 = w.alloc (.cells PZ66 66) := ⟨_, rfl⟩
  have HLE : Hid (w.heap.size ≤ r) := hr ▸ Nat.le_refl _
  rw [← hW1] at hr0 h1 hb0 ⊢
  rw [← hr] at hr0 ⊢
  clear hW1 hr
  have HR0 := Lib.hid hr0
  have HB0 := Lib.hid hb0
  have G := c92_of e f o m B _ _ _ h1
  have g0 := G.c0
  have g1 := G.c1
  have g2 := G.c2
  have g3 := G.c3
  have g4 := G.c4
  have g5 := G.c5
  have g6 := G.c6
  have g7 := G.c7
  have g10 := G.c10
  have g11 := G.c11
  have g34 := G.c34
  have g45 := G.c45
  have g46 := G.c46
  have g47 := G.c47
  have g48 := G.c48
  have g49 := G.c49
  have g50 := G.c50
  have g51 := G.c51
  have g52 := G.c52
  have g53 := G.c53
  have g54 := G.c54
  have g55 := G.c55
  have g56 := G.c56
  have g59 := G.c59
  have g61 := G.c61
  have g62 := G.c62
  have g65 := G.c65
  have g66 := G.c66
  have g67 := G.c67
  have g68 := G.c68
  have g69 := G.c69
  have g70 := G.c70
  have g71 := G.c71
  have g72 := G.c72
  have g73 := G.c73
  have g75 := G.c75
  have g76 := G.c76
  have g77 := G.c77
  have g83 := G.c83
  have g84 := G.c84
  have g89 := G.c89
  have g90 := G.c90
  have g91 := G.c91
  have g92 := G.c92
  have g93 := G.c93
  have g94 := G.c94
  have g95 := G.c95
  have g96 := G.c96
  have g97 := G.c97
  have g98 := G.c98
  clear G h1 h hr0 hb0
  refine wp_region_still_tail (l := rg13) 118 (by kernel_rfl) lex13 ?_
  rw [show List.take 118 rg13 = (List.take 118 rg13).drop 0 from rfl]
  refine still_act (a' := cutAct (L13 p r e f o m B a n mp rp) 121 3) (by kernel_rfl) ?_
  refine still_to 0 (d := some 3) (v := .pointer (some ⟨p, 0, none⟩)) (a' := cutAct (L13 p r e f o m B a n mp rp) 121 4) (by kernel_rfl) (by kernel_rfl) (by kernel_rfl) (by kernel_rfl) (by kernel_rfl) ?_
  refine still_to 1 (d := some 4) (v := .pointer (some ⟨p, 0, none⟩)) (a' := cutAct (L13 p r e f o m B a n mp rp) 121 5) (by kernel_rfl) (by kernel_rfl) (by kernel_rfl) (by kernel_rfl) (by kernel_rfl) ?_
  refine still_to 2 (d := some 5) (v := .pointer (some ⟨p, 34, none⟩)) (a' := cutAct (L13 p r e f o m B a n mp rp) 121 6) (by kernel_rfl) (by kernel_rfl) (by kernel_rfl) (by kernel_rfl) (by kernel_rfl) ?_
  refine still_to 3 (d := some 6) (v := .slice none 0 0) (a' := cutAct (L13 p r e f o m B a n mp rp) 121 7) (by kernel_rfl) (by kernel_rfl) (by kernel_rfl) (run_ld (T := 30) (x := .tmp 5) (by kernel_rfl) (by kernel_rfl) (run_ld1 _ 30 _ _ (by kernel_rfl) g34)) (by kernel_rfl) ?_
  refine still_to 4 (d := some 7) (v := .pointer (some ⟨p, 0, none⟩)) (a' := cutAct (L13 p r e f o m B a n mp rp) 121 8) (by kernel_rfl) (by kernel_rfl) (by kernel_rfl) (by kernel_rfl) (by kernel_rfl) ?_
  refine still_to 5 (d := some 8) (v := .pointer (some ⟨p, 0, none⟩)) (a' := cutAct (L13 p r e f o m B a n mp rp) 121 9) (by kernel_rfl) (by kernel_rfl) (by kernel_rfl) (by kernel_rfl) (by kernel_rfl) ?_
  refine still_to 6 (d := some 9) (v := .pointer (some ⟨p, 45, none⟩)) (a' := cutAct (L13 p r e f o m B a n mp rp) 121 10) (by kernel_rfl) (by kernel_rfl) (by kernel_rfl) (by kernel_rfl) (by kernel_rfl) ?_
  refine still_to 7 (d := some 10) (v := .agg #[.nilIface, .slice none 0 0, .int .u32 0, .nilIface, .slice none 0 0, .int .u32 0, .bool false, .bool false, .bool false, .string ⟨#[]⟩, .bool false, .bool false]) (a' := cutAct (L13 p r e f o m B a n mp rp) 121 11) (by kernel_rfl) (by kernel_rfl) (by kernel_rfl) (run_ld (T := 39) (x := .tmp 9) (by kernel_rfl) (by kernel_rfl) (ld39 _ p 45 g45 g46 g47 g48 g49 g50 g51 g52 g53 g54 g55 g56)) (by kernel_rfl) ?_
  refine still_to 8 (d := some 11) (v := .pointer (some ⟨p, 0, none⟩)) (a' := cutAct (L13 p r e f o m B a n mp rp) 121 12) (by kernel_rfl) (by kernel_rfl) (by kernel_rfl) (by kernel_rfl) (by kernel_rfl) ?_
  refine still_to 9 (d := some 12) (v := .pointer (some ⟨p, 0, none⟩)) (a' := cutAct (L13 p r e f o m B a n mp rp) 121 13) (by kernel_rfl) (by kernel_rfl) (by kernel_rfl) (by kernel_rfl) (by kernel_rfl) ?_
  refine still_to 10 (d := some 13) (v := .pointer (some ⟨p, 4, none⟩)) (a' := cutAct (L13 p r e f o m B a n mp rp) 121 14) (by kernel_rfl) (by kernel_rfl) (by kernel_rfl) (by kernel_rfl) (by kernel_rfl) ?_
  refine still_to 11 (d := some 14) (v := .pointer none) (a' := cutAct (L13 p r e f o m B a n mp rp) 121 15) (by kernel_rfl) (by kernel_rfl) (by kernel_rfl) (run_ld (T := 42) (x := .tmp 13) (by kernel_rfl) (by kernel_rfl) (run_ld1 _ 42 _ _ (by kernel_rfl) g4)) (by kernel_rfl) ?_
  refine still_to 12 (d := some 15) (v := .pointer (some ⟨p, 0, none⟩)) (a' := cutAct (L13 p r e f o m B a n mp rp) 121 16) (by kernel_rfl) (by kernel_rfl) (by kernel_rfl) (by kernel_rfl) (by kernel_rfl) ?_
  refine still_to 13 (d := some 16) (v := .pointer (some ⟨p, 0, none⟩)) (a' := cutAct (L13 p r e f o m B a n mp rp) 121 17) (by kernel_rfl) (by kernel_rfl) (by kernel_rfl) (by kernel_rfl) (by kernel_rfl) ?_
  refine still_to 14 (d := some 17) (v := .pointer (some ⟨p, 5, none⟩)) (a' := cutAct (L13 p r e f o m B a n mp rp) 121 18) (by kernel_rfl) (by kernel_rfl) (by kernel_rfl) (by kernel_rfl) (by kernel_rfl) ?_
  refine still_to 15 (d := some 18) (v := .pointer none) (a' := cutAct (L13 p r e f o m B a n mp rp) 121 19) (by kernel_rfl) (by kernel_rfl) (by kernel_rfl) (run_ld (T := 40) (x := .tmp 17) (by kernel_rfl) (by kernel_rfl) (run_ld1 _ 40 _ _ (by kernel_rfl) g5)) (by kernel_rfl) ?_
  refine still_to 16 (d := some 19) (v := .pointer (some ⟨p, 0, none⟩)) (a' := cutAct (L13 p r e f o m B a n mp rp) 121 20) (by kernel_rfl) (by kernel_rfl) (by kernel_rfl) (by kernel_rfl) (by kernel_rfl) ?_
  refine still_to 17 (d := some 20) (v := .pointer (some ⟨p, 0, none⟩)) (a' := cutAct (L13 p r e f o m B a n mp rp) 121 21) (by kernel_rfl) (by kernel_rfl) (by kernel_rfl) (by kernel_rfl) (by kernel_rfl) ?_
  refine still_to 18 (d := some 21) (v := .pointer (some ⟨p, 6, none⟩)) (a' := cutAct (L13 p r e f o m B a n mp rp) 121 22) (by kernel_rfl) (by kernel_rfl) (by kernel_rfl) (by kernel_rfl) (by kernel_rfl) ?_
  refine still_to 19 (d := some 22) (v := (Value.pointer mp)) (a' := cutAct (L13 p r e f o m B a n mp rp) 121 23) (by kernel_rfl) (by kernel_rfl) (by kernel_rfl) (run_ld (T := 41) (x := .tmp 21) (by kernel_rfl) (by kernel_rfl) (run_ld1 _ 41 _ _ (by kernel_rfl) g6)) (by kernel_rfl) ?_
  refine still_to 20 (d := some 23) (v := .pointer (some ⟨p, 0, none⟩)) (a' := cutAct (L13 p r e f o m B a n mp rp) 121 24) (by kernel_rfl) (by kernel_rfl) (by kernel_rfl) (by kernel_rfl) (by kernel_rfl) ?_
  refine still_to 21 (d := some 24) (v := .pointer (some ⟨p, 0, none⟩)) (a' := cutAct (L13 p r e f o m B a n mp rp) 121 25) (by kernel_rfl) (by kernel_rfl) (by kernel_rfl) (by kernel_rfl) (by kernel_rfl) ?_
  refine still_to 22 (d := some 25) (v := .pointer (some ⟨p, 7, none⟩)) (a' := cutAct (L13 p r e f o m B a n mp rp) 121 26) (by kernel_rfl) (by kernel_rfl) (by kernel_rfl) (by kernel_rfl) (by kernel_rfl) ?_
  refine still_to 23 (d := some 26) (v := (Value.pointer rp)) (a' := cutAct (L13 p r e f o m B a n mp rp) 121 27) (by kernel_rfl) (by kernel_rfl) (by kernel_rfl) (run_ld (T := 41) (x := .tmp 25) (by kernel_rfl) (by kernel_rfl) (run_ld1 _ 41 _ _ (by kernel_rfl) g7)) (by kernel_rfl) ?_
  refine still_to 24 (d := some 27) (v := .pointer (some ⟨p, 0, none⟩)) (a' := cutAct (L13 p r e f o m B a n mp rp) 121 28) (by kernel_rfl) (by kernel_rfl) (by kernel_rfl) (by kernel_rfl) (by kernel_rfl) ?_
  refine still_to 25 (d := some 28) (v := .pointer (some ⟨p, 0, none⟩)) (a' := cutAct (L13 p r e f o m B a n mp rp) 121 29) (by kernel_rfl) (by kernel_rfl) (by kernel_rfl) (by kernel_rfl) (by kernel_rfl) ?_
  refine still_to 26 (d := some 29) (v := .pointer (some ⟨p, 11, none⟩)) (a' := cutAct (L13 p r e f o m B a n mp rp) 121 30) (by kernel_rfl) (by kernel_rfl) (by kernel_rfl) (by kernel_rfl) (by kernel_rfl) ?_
  refine still_to 27 (d := some 30) (v := (Value.slice a n n)) (a' := cutAct (L13 p r e f o m B a n mp rp) 121 31) (by kernel_rfl) (by kernel_rfl) (by kernel_rfl) (run_ld (T := 24) (x := .tmp 29) (by kernel_rfl) (by kernel_rfl) (run_ld1 _ 24 _ _ (by kernel_rfl) g11)) (by kernel_rfl) ?_
  refine still_to 28 (d := some 31) (v := .pointer (some ⟨p, 0, none⟩)) (a' := cutAct (L13 p r e f o m B a n mp rp) 121 32) (by kernel_rfl) (by kernel_rfl) (by kernel_rfl) (by kernel_rfl) (by kernel_rfl) ?_
  refine still_to 29 (d := some 32) (v := .pointer (some ⟨p, 0, none⟩)) (a' := cutAct (L13 p r e f o m B a n mp rp) 121 33) (by kernel_rfl) (by kernel_rfl) (by kernel_rfl) (by kernel_rfl) (by kernel_rfl) ?_
  refine still_to 30 (d := some 33) (v := .pointer (some ⟨p, 59, none⟩)) (a' := cutAct (L13 p r e f o m B a n mp rp) 121 34) (by kernel_rfl) (by kernel_rfl) (by kernel_rfl) (by kernel_rfl) (by kernel_rfl) ?_
  refine still_to 31 (d := some 34) (v := .int .u64 f) (a' := cutAct (L13 p r e f o m B a n mp rp) 121 35) (by kernel_rfl) (by kernel_rfl) (by kernel_rfl) (run_ld (T := 51) (x := .tmp 33) (by kernel_rfl) (by kernel_rfl) (run_ld1 _ 51 _ _ (by kernel_rfl) g59)) (by kernel_rfl) ?_
  refine still_to 32 (d := some 35) (v := .pointer (some ⟨p, 0, none⟩)) (a' := cutAct (L13 p r e f o m B a n mp rp) 121 36) (by kernel_rfl) (by kernel_rfl) (by kernel_rfl) (by kernel_rfl) (by kernel_rfl) ?_
  refine still_to 33 (d := some 36) (v := .pointer (some ⟨p, 0, none⟩)) (a' := cutAct (L13 p r e f o m B a n mp rp) 121 37) (by kernel_rfl) (by kernel_rfl) (by kernel_rfl) (by kernel_rfl) (by kernel_rfl) ?_
  refine still_to 34 (d := some 37) (v := .pointer (some ⟨p, 61, none⟩)) (a' := cutAct (L13 p r e f o m B a n mp rp) 121 38) (by kernel_rfl) (by kernel_rfl) (by kernel_rfl) (by kernel_rfl) (by kernel_rfl) ?_
  refine still_to 35 (d := some 38) (v := .int .u64 o) (a' := cutAct (L13 p r e f o m B a n mp rp) 121 39) (by kernel_rfl) (by kernel_rfl) (by kernel_rfl) (run_ld (T := 51) (x := .tmp 37) (by kernel_rfl) (by kernel_rfl) (run_ld1 _ 51 _ _ (by kernel_rfl) g61)) (by kernel_rfl) ?_
  refine still_to 36 (d := some 39) (v := .pointer (some ⟨p, 0, none⟩)) (a' := cutAct (L13 p r e f o m B a n mp rp) 121 40) (by kernel_rfl) (by kernel_rfl) (by kernel_rfl) (by kernel_rfl) (by kernel_rfl) ?_
  refine still_to 37 (d := some 40) (v := .pointer (some ⟨p, 0, none⟩)) (a' := cutAct (L13 p r e f o m B a n mp rp) 121 41) (by kernel_rfl) (by kernel_rfl) (by kernel_rfl) (by kernel_rfl) (by kernel_rfl) ?_
  refine still_to 38 (d := some 41) (v := .pointer (some ⟨p, 62, none⟩)) (a' := cutAct (L13 p r e f o m B a n mp rp) 121 42) (by kernel_rfl) (by kernel_rfl) (by kernel_rfl) (by kernel_rfl) (by kernel_rfl) ?_
  refine still_to 39 (d := some 42) (v := .int .u64 m) (a' := cutAct (L13 p r e f o m B a n mp rp) 121 43) (by kernel_rfl) (by kernel_rfl) (by kernel_rfl) (run_ld (T := 51) (x := .tmp 41) (by kernel_rfl) (by kernel_rfl) (run_ld1 _ 51 _ _ (by kernel_rfl) g62)) (by kernel_rfl) ?_
  refine still_to 40 (d := some 43) (v := .pointer (some ⟨p, 0, none⟩)) (a' := cutAct (L13 p r e f o m B a n mp rp) 121 44) (by kernel_rfl) (by kernel_rfl) (by kernel_rfl) (by kernel_rfl) (by kernel_rfl) ?_
  refine still_to 41 (d := some 44) (v := .pointer (some ⟨p, 0, none⟩)) (a' := cutAct (L13 p r e f o m B a n mp rp) 121 45) (by kernel_rfl) (by kernel_rfl) (by kernel_rfl) (by kernel_rfl) (by kernel_rfl) ?_
  refine still_to 42 (d := some 45) (v := .pointer (some ⟨p, 10, none⟩)) (a' := cutAct (L13 p r e f o m B a n mp rp) 121 46) (by kernel_rfl) (by kernel_rfl) (by kernel_rfl) (by kernel_rfl) (by kernel_rfl) ?_
  refine still_to 43 (d := some 46) (v := .string e) (a' := cutAct (L13 p r e f o m B a n mp rp) 121 47) (by kernel_rfl) (by kernel_rfl) (by kernel_rfl) (run_ld (T := 9) (x := .tmp 45) (by kernel_rfl) (by kernel_rfl) (run_ld1 _ 9 _ _ (by kernel_rfl) g10)) (by kernel_rfl) ?_
  refine still_to 44 (d := some 47) (v := .pointer (some ⟨p, 0, none⟩)) (a' := cutAct (L13 p r e f o m B a n mp rp) 121 48) (by kernel_rfl) (by kernel_rfl) (by kernel_rfl) (by kernel_rfl) (by kernel_rfl) ?_
  refine still_to 45 (d := some 48) (v := .pointer (some ⟨p, 0, none⟩)) (a' := cutAct (L13 p r e f o m B a n mp rp) 121 49) (by kernel_rfl) (by kernel_rfl) (by kernel_rfl) (by kernel_rfl) (by kernel_rfl) ?_
  refine still_to 46 (d := some 49) (v := .pointer (some ⟨p, 65, none⟩)) (a' := cutAct (L13 p r e f o m B a n mp rp) 121 50) (by kernel_rfl) (by kernel_rfl) (by kernel_rfl) (by kernel_rfl) (by kernel_rfl) ?_
  refine still_to 47 (d := some 50) (v := .agg #[.int .u8 0, .int .u8 0, .int .u8 0, .int .u8 0, .int .u8 0, .int .u8 0, .bool false, .bool false]) (a' := cutAct (L13 p r e f o m B a n mp rp) 121 51) (by kernel_rfl) (by kernel_rfl) (by kernel_rfl) (run_ld (T := 58) (x := .tmp 49) (by kernel_rfl) (by kernel_rfl) (ld58 _ p 65 g65 g66 g67 g68 g69 g70 g71 g72)) (by kernel_rfl) ?_
  refine still_to 48 (d := some 51) (v := .pointer (some ⟨p, 0, none⟩)) (a' := cutAct (L13 p r e f o m B a n mp rp) 121 52) (by kernel_rfl) (by kernel_rfl) (by kernel_rfl) (by kernel_rfl) (by kernel_rfl) ?_
  refine still_to 49 (d := some 52) (v := .pointer (some ⟨p, 0, none⟩)) (a' := cutAct (L13 p r e f o m B a n mp rp) 121 53) (by kernel_rfl) (by kernel_rfl) (by kernel_rfl) (by kernel_rfl) (by kernel_rfl) ?_
  refine still_to 50 (d := some 53) (v := .pointer (some ⟨p, 73, none⟩)) (a' := cutAct (L13 p r e f o m B a n mp rp) 121 54) (by kernel_rfl) (by kernel_rfl) (by kernel_rfl) (by kernel_rfl) (by kernel_rfl) ?_
  refine still_to 51 (d := some 54) (v := .int .u8 0) (a' := cutAct (L13 p r e f o m B a n mp rp) 121 55) (by kernel_rfl) (by kernel_rfl) (by kernel_rfl) (run_ld (T := 59) (x := .tmp 53) (by kernel_rfl) (by kernel_rfl) (run_ld1 _ 59 _ _ (by kernel_rfl) g73)) (by kernel_rfl) ?_
  refine still_to 52 (d := some 55) (v := .pointer (some ⟨p, 0, none⟩)) (a' := cutAct (L13 p r e f o m B a n mp rp) 121 56) (by kernel_rfl) (by kernel_rfl) (by kernel_rfl) (by kernel_rfl) (by kernel_rfl) ?_
  refine still_to 53 (d := some 56) (v := .pointer (some ⟨p, 0, none⟩)) (a' := cutAct (L13 p r e f o m B a n mp rp) 121 57) (by kernel_rfl) (by kernel_rfl) (by kernel_rfl) (by kernel_rfl) (by kernel_rfl) ?_
  refine still_to 54 (d := some 57) (v := .pointer (some ⟨p, 97, none⟩)) (a' := cutAct (L13 p r e f o m B a n mp rp) 121 58) (by kernel_rfl) (by kernel_rfl) (by kernel_rfl) (by kernel_rfl) (by kernel_rfl) ?_
  refine still_to 55 (d := some 58) (v := .int .u8 0) (a' := cutAct (L13 p r e f o m B a n mp rp) 121 59) (by kernel_rfl) (by kernel_rfl) (by kernel_rfl) (run_ld (T := 60) (x := .tmp 57) (by kernel_rfl) (by kernel_rfl) (run_ld1 _ 60 _ _ (by kernel_rfl) g97)) (by kernel_rfl) ?_
  refine still_to 56 (d := some 59) (v := .pointer (some ⟨p, 0, none⟩)) (a' := cutAct (L13 p r e f o m B a n mp rp) 121 60) (by kernel_rfl) (by kernel_rfl) (by kernel_rfl) (by kernel_rfl) (by kernel_rfl) ?_
  refine still_to 57 (d := some 60) (v := .pointer (some ⟨p, 0, none⟩)) (a' := cutAct (L13 p r e f o m B a n mp rp) 121 61) (by kernel_rfl) (by kernel_rfl) (by kernel_rfl) (by kernel_rfl) (by kernel_rfl) ?_
  refine still_to 58 (d := some 61) (v := .pointer (some ⟨p, 98, none⟩)) (a' := cutAct (L13 p r e f o m B a n mp rp) 121 62) (by kernel_rfl) (by kernel_rfl) (by kernel_rfl) (by kernel_rfl) (by kernel_rfl) ?_
  refine still_to 59 (d := some 62) (v := .int .u8 0) (a' := cutAct (L13 p r e f o m B a n mp rp) 121 63) (by kernel_rfl) (by kernel_rfl) (by kernel_rfl) (run_ld (T := 61) (x := .tmp 61) (by kernel_rfl) (by kernel_rfl) (run_ld1 _ 61 _ _ (by kernel_rfl) g98)) (by kernel_rfl) ?_
  refine still_to 60 (d := some 63) (v := .pointer (some ⟨p, 0, none⟩)) (a' := cutAct (L13 p r e f o m B a n mp rp) 121 64) (by kernel_rfl) (by kernel_rfl) (by kernel_rfl) (by kernel_rfl) (by kernel_rfl) ?_
  refine still_to 61 (d := some 64) (v := .pointer (some ⟨p, 0, none⟩)) (a' := cutAct (L13 p r e f o m B a n mp rp) 121 65) (by kernel_rfl) (by kernel_rfl) (by kernel_rfl) (by kernel_rfl) (by kernel_rfl) ?_
  refine still_to 62 (d := some 65) (v := .pointer (some ⟨p, 0, none⟩)) (a' := cutAct (L13 p r e f o m B a n mp rp) 121 66) (by kernel_rfl) (by kernel_rfl) (by kernel_rfl) (by kernel_rfl) (by kernel_rfl) ?_
  refine still_to 63 (d := some 66) (v := .agg #[.pointer none, .int .i32 0, .int .i32 0, .int .u8 0]) (a' := cutAct (L13 p r e f o m B a n mp rp) 121 67) (by kernel_rfl) (by kernel_rfl) (by kernel_rfl) (run_ld (T := 50) (x := .tmp 65) (by kernel_rfl) (by kernel_rfl) (ld50 _ p 0 g0 g1 g2 g3)) (by kernel_rfl) ?_
  refine still_to 64 (d := some 67) (v := .pointer (some ⟨p, 0, none⟩)) (a' := cutAct (L13 p r e f o m B a n mp rp) 121 68) (by kernel_rfl) (by kernel_rfl) (by kernel_rfl) (by kernel_rfl) (by kernel_rfl) ?_
  refine still_to 65 (d := some 68) (v := .pointer (some ⟨p, 0, none⟩)) (a' := cutAct (L13 p r e f o m B a n mp rp) 121 69) (by kernel_rfl) (by kernel_rfl) (by kernel_rfl) (by kernel_rfl) (by kernel_rfl) ?_
  refine still_to 66 (d := some 69) (v := .pointer (some ⟨p, 91, none⟩)) (a' := cutAct (L13 p r e f o m B a n mp rp) 121 70) (by kernel_rfl) (by kernel_rfl) (by kernel_rfl) (by kernel_rfl) (by kernel_rfl) ?_
  refine still_to 67 (d := some 70) (v := .bool (bitB B 0)) (a' := cutAct (L13 p r e f o m B a n mp rp) 121 71) (by kernel_rfl) (by kernel_rfl) (by kernel_rfl) (run_ld (T := 4) (x := .tmp 69) (by kernel_rfl) (by kernel_rfl) (run_ld1 _ 4 _ _ (by kernel_rfl) g91)) (by kernel_rfl) ?_
  refine still_to 68 (d := some 71) (v := .pointer (some ⟨p, 0, none⟩)) (a' := cutAct (L13 p r e f o m B a n mp rp) 121 72) (by kernel_rfl) (by kernel_rfl) (by kernel_rfl) (by kernel_rfl) (by kernel_rfl) ?_
  refine still_to 69 (d := some 72) (v := .pointer (some ⟨p, 0, none⟩)) (a' := cutAct (L13 p r e f o m B a n mp rp) 121 73) (by kernel_rfl) (by kernel_rfl) (by kernel_rfl) (by kernel_rfl) (by kernel_rfl) ?_
  refine still_to 70 (d := some 73) (v := .pointer (some ⟨p, 92, none⟩)) (a' := cutAct (L13 p r e f o m B a n mp rp) 121 74) (by kernel_rfl) (by kernel_rfl) (by kernel_rfl) (by kernel_rfl) (by kernel_rfl) ?_
  refine still_to 71 (d := some 74) (v := .bool (bitB B 1)) (a' := cutAct (L13 p r e f o m B a n mp rp) 121 75) (by kernel_rfl) (by kernel_rfl) (by kernel_rfl) (run_ld (T := 4) (x := .tmp 73) (by kernel_rfl) (by kernel_rfl) (run_ld1 _ 4 _ _ (by kernel_rfl) g92)) (by kernel_rfl) ?_
  refine still_to 72 (d := some 75) (v := .pointer (some ⟨p, 0, none⟩)) (a' := cutAct (L13 p r e f o m B a n mp rp) 121 76) (by kernel_rfl) (by kernel_rfl) (by kernel_rfl) (by kernel_rfl) (by kernel_rfl) ?_
  refine still_to 73 (d := some 76) (v := .pointer (some ⟨p, 0, none⟩)) (a' := cutAct (L13 p r e f o m B a n mp rp) 121 77) (by kernel_rfl) (by kernel_rfl) (by kernel_rfl) (by kernel_rfl) (by kernel_rfl) ?_
  refine still_to 74 (d := some 77) (v := .pointer (some ⟨p, 77, none⟩)) (a' := cutAct (L13 p r e f o m B a n mp rp) 121 78) (by kernel_rfl) (by kernel_rfl) (by kernel_rfl) (by kernel_rfl) (by kernel_rfl) ?_
  refine still_to 75 (d := some 78) (v := .bool (bitB B 2)) (a' := cutAct (L13 p r e f o m B a n mp rp) 121 79) (by kernel_rfl) (by kernel_rfl) (by kernel_rfl) (run_ld (T := 4) (x := .tmp 77) (by kernel_rfl) (by kernel_rfl) (run_ld1 _ 4 _ _ (by kernel_rfl) g77)) (by kernel_rfl) ?_
  refine still_to 76 (d := some 79) (v := .pointer (some ⟨p, 0, none⟩)) (a' := cutAct (L13 p r e f o m B a n mp rp) 121 80) (by kernel_rfl) (by kernel_rfl) (by kernel_rfl) (by kernel_rfl) (by kernel_rfl) ?_
  refine still_to 77 (d := some 80) (v := .pointer (some ⟨p, 0, none⟩)) (a' := cutAct (L13 p r e f o m B a n mp rp) 121 81) (by kernel_rfl) (by kernel_rfl) (by kernel_rfl) (by kernel_rfl) (by kernel_rfl) ?_
  refine still_to 78 (d := some 81) (v := .pointer (some ⟨p, 76, none⟩)) (a' := cutAct (L13 p r e f o m B a n mp rp) 121 82) (by kernel_rfl) (by kernel_rfl) (by kernel_rfl) (by kernel_rfl) (by kernel_rfl) ?_
  refine still_to 79 (d := some 82) (v := .bool (bitB B 3)) (a' := cutAct (L13 p r e f o m B a n mp rp) 121 83) (by kernel_rfl) (by kernel_rfl) (by kernel_rfl) (run_ld (T := 4) (x := .tmp 81) (by kernel_rfl) (by kernel_rfl) (run_ld1 _ 4 _ _ (by kernel_rfl) g76)) (by kernel_rfl) ?_
  refine still_to 80 (d := some 83) (v := .pointer (some ⟨p, 0, none⟩)) (a' := cutAct (L13 p r e f o m B a n mp rp) 121 84) (by kernel_rfl) (by kernel_rfl) (by kernel_rfl) (by kernel_rfl) (by kernel_rfl) ?_
  refine still_to 81 (d := some 84) (v := .pointer (some ⟨p, 0, none⟩)) (a' := cutAct (L13 p r e f o m B a n mp rp) 121 85) (by kernel_rfl) (by kernel_rfl) (by kernel_rfl) (by kernel_rfl) (by kernel_rfl) ?_
  refine still_to 82 (d := some 85) (v := .pointer (some ⟨p, 75, none⟩)) (a' := cutAct (L13 p r e f o m B a n mp rp) 121 86) (by kernel_rfl) (by kernel_rfl) (by kernel_rfl) (by kernel_rfl) (by kernel_rfl) ?_
  refine still_to 83 (d := some 86) (v := .bool (bitB B 4)) (a' := cutAct (L13 p r e f o m B a n mp rp) 121 87) (by kernel_rfl) (by kernel_rfl) (by kernel_rfl) (run_ld (T := 4) (x := .tmp 85) (by kernel_rfl) (by kernel_rfl) (run_ld1 _ 4 _ _ (by kernel_rfl) g75)) (by kernel_rfl) ?_
  refine still_to 84 (d := some 87) (v := .pointer (some ⟨p, 0, none⟩)) (a' := cutAct (L13 p r e f o m B a n mp rp) 121 88) (by kernel_rfl) (by kernel_rfl) (by kernel_rfl) (by kernel_rfl) (by kernel_rfl) ?_
  refine still_to 85 (d := some 88) (v := .pointer (some ⟨p, 0, none⟩)) (a' := cutAct (L13 p r e f o m B a n mp rp) 121 89) (by kernel_rfl) (by kernel_rfl) (by kernel_rfl) (by kernel_rfl) (by kernel_rfl) ?_
  refine still_to 86 (d := some 89) (v := .pointer (some ⟨p, 89, none⟩)) (a' := cutAct (L13 p r e f o m B a n mp rp) 121 90) (by kernel_rfl) (by kernel_rfl) (by kernel_rfl) (by kernel_rfl) (by kernel_rfl) ?_
  refine still_to 87 (d := some 90) (v := .bool (bitB B 5)) (a' := cutAct (L13 p r e f o m B a n mp rp) 121 91) (by kernel_rfl) (by kernel_rfl) (by kernel_rfl) (run_ld (T := 4) (x := .tmp 89) (by kernel_rfl) (by kernel_rfl) (run_ld1 _ 4 _ _ (by kernel_rfl) g89)) (by kernel_rfl) ?_
  refine still_to 88 (d := some 91) (v := .pointer (some ⟨p, 0, none⟩)) (a' := cutAct (L13 p r e f o m B a n mp rp) 121 92) (by kernel_rfl) (by kernel_rfl) (by kernel_rfl) (by kernel_rfl) (by kernel_rfl) ?_
  refine still_to 89 (d := some 92) (v := .pointer (some ⟨p, 0, none⟩)) (a' := cutAct (L13 p r e f o m B a n mp rp) 121 93) (by kernel_rfl) (by kernel_rfl) (by kernel_rfl) (by kernel_rfl) (by kernel_rfl) ?_
  refine still_to 90 (d := some 93) (v := .pointer (some ⟨p, 90, none⟩)) (a' := cutAct (L13 p r e f o m B a n mp rp) 121 94) (by kernel_rfl) (by kernel_rfl) (by kernel_rfl) (by kernel_rfl) (by kernel_rfl) ?_
  refine still_to 91 (d := some 94) (v := .bool (bitB B 6)) (a' := cutAct (L13 p r e f o m B a n mp rp) 121 95) (by kernel_rfl) (by kernel_rfl) (by kernel_rfl) (run_ld (T := 4) (x := .tmp 93) (by kernel_rfl) (by kernel_rfl) (run_ld1 _ 4 _ _ (by kernel_rfl) g90)) (by kernel_rfl) ?_
  refine still_to 92 (d := some 95) (v := .pointer (some ⟨p, 0, none⟩)) (a' := cutAct (L13 p r e f o m B a n mp rp) 121 96) (by kernel_rfl) (by kernel_rfl) (by kernel_rfl) (by kernel_rfl) (by kernel_rfl) ?_
  refine still_to 93 (d := some 96) (v := .pointer (some ⟨p, 0, none⟩)) (a' := cutAct (L13 p r e f o m B a n mp rp) 121 97) (by kernel_rfl) (by kernel_rfl) (by kernel_rfl) (by kernel_rfl) (by kernel_rfl) ?_
  refine still_to 94 (d := some 97) (v := .pointer (some ⟨p, 93, none⟩)) (a' := cutAct (L13 p r e f o m B a n mp rp) 121 98) (by kernel_rfl) (by kernel_rfl) (by kernel_rfl) (by kernel_rfl) (by kernel_rfl) ?_
  refine still_to 95 (d := some 98) (v := .bool (bitB B 7)) (a' := cutAct (L13 p r e f o m B a n mp rp) 121 99) (by kernel_rfl) (by kernel_rfl) (by kernel_rfl) (run_ld (T := 4) (x := .tmp 97) (by kernel_rfl) (by kernel_rfl) (run_ld1 _ 4 _ _ (by kernel_rfl) g93)) (by kernel_rfl) ?_
  refine still_to 96 (d := some 99) (v := .pointer (some ⟨p, 0, none⟩)) (a' := cutAct (L13 p r e f o m B a n mp rp) 121 100) (by kernel_rfl) (by kernel_rfl) (by kernel_rfl) (by kernel_rfl) (by kernel_rfl) ?_
  refine still_to 97 (d := some 100) (v := .pointer (some ⟨p, 0, none⟩)) (a' := cutAct (L13 p r e f o m B a n mp rp) 121 101) (by kernel_rfl) (by kernel_rfl) (by kernel_rfl) (by kernel_rfl) (by kernel_rfl) ?_
  refine still_to 98 (d := some 101) (v := .pointer (some ⟨p, 94, none⟩)) (a' := cutAct (L13 p r e f o m B a n mp rp) 121 102) (by kernel_rfl) (by kernel_rfl) (by kernel_rfl) (by kernel_rfl) (by kernel_rfl) ?_
  refine still_to 99 (d := some 102) (v := .bool (bitB B 8)) (a' := cutAct (L13 p r e f o m B a n mp rp) 121 103) (by kernel_rfl) (by kernel_rfl) (by kernel_rfl) (run_ld (T := 4) (x := .tmp 101) (by kernel_rfl) (by kernel_rfl) (run_ld1 _ 4 _ _ (by kernel_rfl) g94)) (by kernel_rfl) ?_
  refine still_to 100 (d := some 103) (v := .pointer (some ⟨p, 0, none⟩)) (a' := cutAct (L13 p r e f o m B a n mp rp) 121 104) (by kernel_rfl) (by kernel_rfl) (by kernel_rfl) (by kernel_rfl) (by kernel_rfl) ?_
  refine still_to 101 (d := some 104) (v := .pointer (some ⟨p, 0, none⟩)) (a' := cutAct (L13 p r e f o m B a n mp rp) 121 105) (by kernel_rfl) (by kernel_rfl) (by kernel_rfl) (by kernel_rfl) (by kernel_rfl) ?_
  refine still_to 102 (d := some 105) (v := .pointer (some ⟨p, 95, none⟩)) (a' := cutAct (L13 p r e f o m B a n mp rp) 121 106) (by kernel_rfl) (by kernel_rfl) (by kernel_rfl) (by kernel_rfl) (by kernel_rfl) ?_
  refine still_to 103 (d := some 106) (v := .bool (bitB B 9)) (a' := cutAct (L13 p r e f o m B a n mp rp) 121 107) (by kernel_rfl) (by kernel_rfl) (by kernel_rfl) (run_ld (T := 4) (x := .tmp 105) (by kernel_rfl) (by kernel_rfl) (run_ld1 _ 4 _ _ (by kernel_rfl) g95)) (by kernel_rfl) ?_
  refine still_to 104 (d := some 107) (v := .pointer (some ⟨p, 0, none⟩)) (a' := cutAct (L13 p r e f o m B a n mp rp) 121 108) (by kernel_rfl) (by kernel_rfl) (by kernel_rfl) (by kernel_rfl) (by kernel_rfl) ?_
  refine still_to 105 (d := some 108) (v := .pointer (some ⟨p, 0, none⟩)) (a' := cutAct (L13 p r e f o m B a n mp rp) 121 109) (by kernel_rfl) (by kernel_rfl) (by kernel_rfl) (by kernel_rfl) (by kernel_rfl) ?_
  refine still_to 106 (d := some 109) (v := .pointer (some ⟨p, 96, none⟩)) (a' := cutAct (L13 p r e f o m B a n mp rp) 121 110) (by kernel_rfl) (by kernel_rfl) (by kernel_rfl) (by kernel_rfl) (by kernel_rfl) ?_
  refine still_to 107 (d := some 110) (v := .bool (bitB B 10)) (a' := cutAct (L13 p r e f o m B a n mp rp) 121 111) (by kernel_rfl) (by kernel_rfl) (by kernel_rfl) (run_ld (T := 4) (x := .tmp 109) (by kernel_rfl) (by kernel_rfl) (run_ld1 _ 4 _ _ (by kernel_rfl) g96)) (by kernel_rfl) ?_
  refine still_to 108 (d := some 111) (v := .pointer (some ⟨p, 0, none⟩)) (a' := cutAct (L13 p r e f o m B a n mp rp) 121 112) (by kernel_rfl) (by kernel_rfl) (by kernel_rfl) (by kernel_rfl) (by kernel_rfl) ?_
  refine still_to 109 (d := some 112) (v := .pointer (some ⟨p, 0, none⟩)) (a' := cutAct (L13 p r e f o m B a n mp rp) 121 113) (by kernel_rfl) (by kernel_rfl) (by kernel_rfl) (by kernel_rfl) (by kernel_rfl) ?_
  refine still_to 110 (d := some 113) (v := .pointer (some ⟨p, 83, none⟩)) (a' := cutAct (L13 p r e f o m B a n mp rp) 121 114) (by kernel_rfl) (by kernel_rfl) (by kernel_rfl) (by kernel_rfl) (by kernel_rfl) ?_
  refine still_to 111 (d := some 114) (v := .int .u8 0) (a' := cutAct (L13 p r e f o m B a n mp rp) 121 115) (by kernel_rfl) (by kernel_rfl) (by kernel_rfl) (run_ld (T := 62) (x := .tmp 113) (by kernel_rfl) (by kernel_rfl) (run_ld1 _ 62 _ _ (by kernel_rfl) g83)) (by kernel_rfl) ?_
  refine still_to 112 (d := some 115) (v := .pointer (some ⟨p, 0, none⟩)) (a' := cutAct (L13 p r e f o m B a n mp rp) 121 116) (by kernel_rfl) (by kernel_rfl) (by kernel_rfl) (by kernel_rfl) (by kernel_rfl) ?_
  refine still_to 113 (d := some 116) (v := .pointer (some ⟨p, 0, none⟩)) (a' := cutAct (L13 p r e f o m B a n mp rp) 121 117) (by kernel_rfl) (by kernel_rfl) (by kernel_rfl) (by kernel_rfl) (by kernel_rfl) ?_
  refine still_to 114 (d := some 117) (v := .pointer (some ⟨p, 84, none⟩)) (a' := cutAct (L13 p r e f o m B a n mp rp) 121 118) (by kernel_rfl) (by kernel_rfl) (by kernel_rfl) (by kernel_rfl) (by kernel_rfl) ?_
  refine still_to 115 (d := some 118) (v := .int .u8 0) (a' := cutAct (L13 p r e f o m B a n mp rp) 121 119) (by kernel_rfl) (by kernel_rfl) (by kernel_rfl) (run_ld (T := 62) (x := .tmp 117) (by kernel_rfl) (by kernel_rfl) (run_ld1 _ 62 _ _ (by kernel_rfl) g84)) (by kernel_rfl) ?_
  refine still_to 116 (d := some 119) (a' := cutAct (L13 p r e f o m B a n mp rp) 121 120) (v := .agg (S33 e f o m B)) (by kernel_rfl) (by kernel_rfl) (by kernel_rfl) (run_bd (T := 64) (parts := #[(2, .tmp 34), (3, .tmp 38), (4, .tmp 42), (0, .tmp 46), (5, .tmp 50), (6, .tmp 54), (7, .tmp 58), (8, .tmp 62), (1, .tmp 66), (11, .tmp 70), (12, .tmp 74), (13, .tmp 78), (14, .tmp 82), (15, .tmp 86), (16, .tmp 90), (17, .tmp 94), (18, .tmp 98), (19, .tmp 102), (20, .tmp 106), (21, .tmp 110), (9, .tmp 114), (10, .tmp 118)]) (vs := p64 e f o m B) (by kernel_rfl) (by kernel_rfl) (build64 e f o m B _)) (by kernel_rfl) ?_
  refine still_to 117 (d := some 120) (a' := cutAct (L13 p r e f o m B a n mp rp) 121 121) (v := .agg (A66 e f o m B (.slice a n n) (.pointer mp) (.pointer rp))) (by kernel_rfl) (by kernel_rfl) (by kernel_rfl) (run_bd (T := 66) (parts := #[(0, .tmp 6), (1, .tmp 10), (6, .tmp 14), (2, .tmp 18), (3, .tmp 22), (4, .tmp 26), (5, .tmp 30), (7, .tmp 119)]) (vs := p66 e f o m B (.slice a n n) (.pointer mp) (.pointer rp)) (by kernel_rfl) (by kernel_rfl) (build66 e f o m B a n mp rp _)) (by kernel_rfl) ?_
  refine still_end 118 (by kernel_rfl) ?_
  rw [show rg13.drop 118 = [rg13.getD 118 noOper] from by kernel_rfl]
  refine wpList_store_row (by kernel_rfl) 66 (.tmp 2) (.tmp 120) (by kernel_rfl) r (A66 e f o m B (.slice a n n) (.pointer mp) (.pointer rp)) (by kernel_rfl) (by kernel_rfl) 66 PZ66 HR0.out (by kernel_rfl) (by kernel_rfl) (a66_one e f o m B a n mp rp) ?_
  have hr := row_setRow (ds := A66 e f o m B (.slice a n n) (.pointer mp) (.pointer rp)) (show RowAt { W1 with drawn := W1.drawn + 1 } r PZ66 66 from HR0.out)
  have hl := all66 _ e f o m B a n mp rp hr
  have hb : Below w.heap.size w ({ W1 with drawn := W1.drawn + 1 }.setRow r (A66 e f o m B (.slice a n n) (.pointer mp) (.pointer rp))) := below_setRow (below_drewN HB0.out 1) HLE.out _
  have h2 : (((cutAct (L13 p r e f o m B a n mp rp) 121 121).put (rg13.getD 118 noOper).dst undef).tmps).getD 2 undef = .pointer (some ⟨r, 0, none⟩) := by kernel_rfl
  have HH := Lib.hid (And.intro hl (And.intro hb h2))
  clear hr hl hb h2
  go_wp2_with fail
  exact bodyPost_ret (v := .agg (A66 e f o m B (.slice a n n) (.pointer mp) (.pointer rp))) (results_cell Try.results13 HH.out.2.2 HH.out.1) rfl ⟨rfl, HH.out.2.1⟩


end Go.Proofs.Ytfbjlgjlbndmkaa
