import Derived.Test.YtidicogmfpfibaaFmtKit
import Derived.Test.YtidicogmfpfibaaFmtIsB
import Derived.Test.YtidicogmfpfibaaFmtScript
namespace Go.Proofs.YtidicogmfpfibaaFmt
open Go.ChangeShapes Go.WideShapes Go.ChangeAt Go.RowKit
set_option linter.unusedVariables false
set_option maxRecDepth 100000
set_option maxHeartbeats 2000000

open Go.MuLone
noncomputable def rg32 : List Oper := rgAt Tryf.f32 4
theorem ok32_0 : ((List.range 15).all fun i => stepOk rg32.toArray 20 (0 + i)) = true := by kernel_rfl
theorem ok32_1 : ((List.range 3).all fun i => stepOk rg32.toArray 20 (15 + i)) = true := by kernel_rfl
theorem ok32 (j : Nat) (h : j < 18) : stepOk rg32.toArray 20 j = true := by
  by_cases h0 : j < 15; · exact chunk ok32_0 j (by omega) (by omega)
  exact chunk ok32_1 j (by omega) (by omega)
theorem sel32 : Region.noSelect rg32.toArray = true := by kernel_rfl
/-- What a location wants of memory: the range, the text, the paths. -/
def S32 (p o q : Nat) (l : Int) (W : World) : Prop := RowAt W q #[.int .i32 0, .int .i32 l] 41 ∧ W.cell? ⟨p, o, none⟩ = some (.string ⟨#[]⟩) ∧ W.rangeAt p (o + 1) [.string ⟨#[]⟩, .string ⟨#[]⟩]
def Bs32_0 (p o q : Nat) : List Value := [.pointer (some ⟨p, o, none⟩), .agg #[.int .i32 0, .int .i32 0], undef, .pointer (some ⟨q, 0, none⟩), .pointer none, .int .i64 0, .int .i64 0, .int .i64 0, .int .i64 0, .pointer (some ⟨p, o, none⟩), .bool false, .bool false, .pointer (some ⟨p, o, none⟩), .pointer (some ⟨p, o, none⟩), .pointer (some ⟨p, o + 9, none⟩), .bool true, .bool false, .bool false, .tuple #[.int .i64 0, .int .i64 0, .int .i64 0, .int .i64 0], .pointer (some ⟨p, o, none⟩), .pointer (some ⟨q, 0, none⟩), .pointer (some ⟨q, 0, none⟩), .int .i32 0, .int .i64 0, .tuple #[.int .i64 0, .int .i64 0, .int .i64 0, .int .i64 0], .int .i64 0, .int .i64 0, .int .i64 0, .int .i64 0, undef, undef, undef, undef, undef, undef, undef, undef, undef, undef, undef, undef, undef, undef, undef, undef, undef, undef, undef]
def Vs32_0 (p o q : Nat) : List Value := [.pointer (some ⟨p, o, none⟩), .pointer (some ⟨p, o, none⟩), .pointer (some ⟨p, o + 1, none⟩), .agg #[.string ⟨#[]⟩, .string ⟨#[]⟩], .int .i64 0, .int .i64 1, .int .i64 0, .pointer (some ⟨q, 1, none⟩), .int .i32 0, .int .i64 0, .pointer (some ⟨p, o, none⟩), .pointer (some ⟨p, o, none⟩), .pointer (some ⟨p, o, none⟩), .string ⟨#[]⟩, .int .i64 0, .int .i64 0, .string ⟨#[]⟩, .agg #[.string ⟨#[]⟩, .string ⟨#[]⟩, .string ⟨#[]⟩, .string ⟨#[]⟩, .string ⟨#[]⟩, .int .i64 1, .int .i64 0, .int .i64 0]]
theorem rgn32_0 {Q : Exit → Act → World → Prop} (hQ : ∀ c a d v w, Q (.panic c) (a.put d v) w → Q (.panic c) a w) (p o q : Nat) (W : World) (hS : S32 p o q 0 W)
    (hend : ∀ g W', g = W.heap.size → W' = W.drew.alloc (.cells #[.string ⟨#[]⟩, .string ⟨#[]⟩, .string ⟨#[]⟩, .string ⟨#[]⟩, .string ⟨#[]⟩, .int .i64 1, .int .i64 0, .int .i64 0] 219) → Q .normal ⟨List.toArray (Value.pointer (some ⟨p, o, none⟩) :: Value.agg #[.int .i32 0, .int .i32 0] :: undef :: Value.pointer (some ⟨q, 0, none⟩) :: Value.pointer (some ⟨g, 0, none⟩) :: Value.int .i64 0 :: Value.int .i64 0 :: Value.int .i64 0 :: Value.int .i64 0 :: Value.pointer (some ⟨p, o, none⟩) :: Value.bool false :: Value.bool false :: Value.pointer (some ⟨p, o, none⟩) :: Value.pointer (some ⟨p, o, none⟩) :: Value.pointer (some ⟨p, o + 9, none⟩) :: Value.bool true :: Value.bool false :: Value.bool false :: Value.tuple #[.int .i64 0, .int .i64 0, .int .i64 0, .int .i64 0] :: Value.pointer (some ⟨p, o, none⟩) :: Value.pointer (some ⟨q, 0, none⟩) :: Value.pointer (some ⟨q, 0, none⟩) :: Value.int .i32 0 :: Value.int .i64 0 :: Value.tuple #[.int .i64 0, .int .i64 0, .int .i64 0, .int .i64 0] :: Value.int .i64 0 :: Value.int .i64 0 :: Value.int .i64 0 :: Value.int .i64 0 :: Value.pointer (some ⟨p, o, none⟩) :: Value.pointer (some ⟨p, o, none⟩) :: Value.pointer (some ⟨p, o + 1, none⟩) :: Value.agg #[.string ⟨#[]⟩, .string ⟨#[]⟩] :: Value.int .i64 0 :: Value.int .i64 1 :: Value.int .i64 0 :: Value.pointer (some ⟨q, 1, none⟩) :: Value.int .i32 0 :: Value.int .i64 0 :: Value.pointer (some ⟨p, o, none⟩) :: Value.pointer (some ⟨p, o, none⟩) :: Value.pointer (some ⟨p, o, none⟩) :: Value.string ⟨#[]⟩ :: Value.int .i64 0 :: Value.int .i64 0 :: Value.string ⟨#[]⟩ :: Value.agg #[.string ⟨#[]⟩, .string ⟨#[]⟩, .string ⟨#[]⟩, .string ⟨#[]⟩, .string ⟨#[]⟩, .int .i64 1, .int .i64 0, .int .i64 0] :: Value.pointer (some ⟨g, 0, none⟩) :: []), []⟩ W') : (Code.region 4 rg32.toArray true).wp Tryf.prog Q ⟨List.toArray (Value.pointer (some ⟨p, o, none⟩) :: Value.agg #[.int .i32 0, .int .i32 0] :: undef :: Value.pointer (some ⟨q, 0, none⟩) :: Value.pointer none :: Value.int .i64 0 :: Value.int .i64 0 :: Value.int .i64 0 :: Value.int .i64 0 :: Value.pointer (some ⟨p, o, none⟩) :: Value.bool false :: Value.bool false :: Value.pointer (some ⟨p, o, none⟩) :: Value.pointer (some ⟨p, o, none⟩) :: Value.pointer (some ⟨p, o + 9, none⟩) :: Value.bool true :: Value.bool false :: Value.bool false :: Value.tuple #[.int .i64 0, .int .i64 0, .int .i64 0, .int .i64 0] :: Value.pointer (some ⟨p, o, none⟩) :: Value.pointer (some ⟨q, 0, none⟩) :: Value.pointer (some ⟨q, 0, none⟩) :: Value.int .i32 0 :: Value.int .i64 0 :: Value.tuple #[.int .i64 0, .int .i64 0, .int .i64 0, .int .i64 0] :: Value.int .i64 0 :: Value.int .i64 0 :: Value.int .i64 0 :: Value.int .i64 0 :: undef :: undef :: undef :: undef :: undef :: undef :: undef :: undef :: undef :: undef :: undef :: undef :: undef :: undef :: undef :: undef :: undef :: undef :: undef :: []), []⟩ W := by
  refine held_begin (N := 20) (S := S32 p o q 0) (a' := frAct (Bs32_0 p o q) (Vs32_0 p o q) 29 0) (by kernel_rfl) (by kernel_rfl) (by kernel_rfl) (show S32 p o q 0 W.drew from hS) (fun hS => ?_)
  refine held_to (a' := frAct (Bs32_0 p o q) (Vs32_0 p o q) 29 1) 0 20 (d := some 29) (v := .pointer (some ⟨p, o, none⟩)) (by kernel_rfl) (by kernel_rfl) sel32 (ok32 0 (by omega)) (fun c a w => hQ c a (some 29) _ w) (by kernel_rfl) (fun _ _ => by kernel_rfl) hS (by kernel_rfl) ?_
  refine held_to (a' := frAct (Bs32_0 p o q) (Vs32_0 p o q) 29 2) 1 20 (d := some 30) (v := .pointer (some ⟨p, o, none⟩)) (by kernel_rfl) (by kernel_rfl) sel32 (ok32 1 (by omega)) (fun c a w => hQ c a (some 30) _ w) (by kernel_rfl) (fun _ _ => by kernel_rfl) hS (by kernel_rfl) ?_
  refine held_to (a' := frAct (Bs32_0 p o q) (Vs32_0 p o q) 29 3) 2 20 (d := some 31) (v := .pointer (some ⟨p, o + 1, none⟩)) (by kernel_rfl) (by kernel_rfl) sel32 (ok32 2 (by omega)) (fun c a w => hQ c a (some 31) _ w) (by kernel_rfl) (fun _ _ => by kernel_rfl) hS (by kernel_rfl) ?_
  refine held_to (a' := frAct (Bs32_0 p o q) (Vs32_0 p o q) 29 4) 3 20 (d := some 32) (v := .agg #[.string ⟨#[]⟩, .string ⟨#[]⟩]) (by kernel_rfl) (by kernel_rfl) sel32 (ok32 3 (by omega)) (fun c a w => hQ c a (some 32) _ w) (by kernel_rfl) (fun _ hS => run_ld (T := 86) (x := .tmp 31) (by kernel_rfl) (by kernel_rfl) (run_loadVar_mid _ p (o + 1) 86 [.string ⟨#[]⟩, .string ⟨#[]⟩] _ hS.2.2 Tryf.underlying86 rfl (by kernel_rfl))) hS (by kernel_rfl) ?_
  refine held_to (a' := frAct (Bs32_0 p o q) (Vs32_0 p o q) 29 5) 4 20 (d := some 33) (v := .int .i64 0) (by kernel_rfl) (by kernel_rfl) sel32 (ok32 4 (by omega)) (fun c a w => hQ c a (some 33) _ w) (by kernel_rfl) (fun _ _ => by kernel_rfl) hS (by kernel_rfl) ?_
  refine held_to (a' := frAct (Bs32_0 p o q) (Vs32_0 p o q) 29 6) 5 20 (d := some 34) (v := .int .i64 1) (by kernel_rfl) (by kernel_rfl) sel32 (ok32 5 (by omega)) (fun c a w => hQ c a (some 34) _ w) (by kernel_rfl) (fun _ _ => by kernel_rfl) hS (by kernel_rfl) ?_
  refine held_to (a' := frAct (Bs32_0 p o q) (Vs32_0 p o q) 29 7) 6 20 (d := some 35) (v := .int .i64 0) (by kernel_rfl) (by kernel_rfl) sel32 (ok32 6 (by omega)) (fun c a w => hQ c a (some 35) _ w) (by kernel_rfl) (fun _ _ => by kernel_rfl) hS (by kernel_rfl) ?_
  refine held_to (a' := frAct (Bs32_0 p o q) (Vs32_0 p o q) 29 8) 7 20 (d := some 36) (v := .pointer (some ⟨q, 1, none⟩)) (by kernel_rfl) (by kernel_rfl) sel32 (ok32 7 (by omega)) (fun c a w => hQ c a (some 36) _ w) (by kernel_rfl) (fun _ _ => by kernel_rfl) hS (by kernel_rfl) ?_
  refine held_to (a' := frAct (Bs32_0 p o q) (Vs32_0 p o q) 29 9) 8 20 (d := some 37) (v := .int .i32 0) (by kernel_rfl) (by kernel_rfl) sel32 (ok32 8 (by omega)) (fun c a w => hQ c a (some 37) _ w) (by kernel_rfl) (fun _ hS => run_ld (T := 21) (x := .tmp 36) (by kernel_rfl) (by kernel_rfl) (run_ld1 ⟨q, 1, none⟩ 21 _ _ (by kernel_rfl) (hS.1.cellv (j := 1) (by rfl)))) hS (by kernel_rfl) ?_
  refine held_to (a' := frAct (Bs32_0 p o q) (Vs32_0 p o q) 29 10) 9 20 (d := some 38) (v := .int .i64 0) (by kernel_rfl) (by kernel_rfl) sel32 (ok32 9 (by omega)) (fun c a w => hQ c a (some 38) _ w) (by kernel_rfl) (fun _ _ => by kernel_rfl) hS (by kernel_rfl) ?_
  refine held_to (a' := frAct (Bs32_0 p o q) (Vs32_0 p o q) 29 11) 10 20 (d := some 39) (v := .pointer (some ⟨p, o, none⟩)) (by kernel_rfl) (by kernel_rfl) sel32 (ok32 10 (by omega)) (fun c a w => hQ c a (some 39) _ w) (by kernel_rfl) (fun _ _ => by kernel_rfl) hS (by kernel_rfl) ?_
  refine held_to (a' := frAct (Bs32_0 p o q) (Vs32_0 p o q) 29 12) 11 20 (d := some 40) (v := .pointer (some ⟨p, o, none⟩)) (by kernel_rfl) (by kernel_rfl) sel32 (ok32 11 (by omega)) (fun c a w => hQ c a (some 40) _ w) (by kernel_rfl) (fun _ _ => by kernel_rfl) hS (by kernel_rfl) ?_
  refine held_to (a' := frAct (Bs32_0 p o q) (Vs32_0 p o q) 29 13) 12 20 (d := some 41) (v := .pointer (some ⟨p, o, none⟩)) (by kernel_rfl) (by kernel_rfl) sel32 (ok32 12 (by omega)) (fun c a w => hQ c a (some 41) _ w) (by kernel_rfl) (fun _ _ => by kernel_rfl) hS (by kernel_rfl) ?_
  refine held_to (a' := frAct (Bs32_0 p o q) (Vs32_0 p o q) 29 14) 13 20 (d := some 42) (v := .string ⟨#[]⟩) (by kernel_rfl) (by kernel_rfl) sel32 (ok32 13 (by omega)) (fun c a w => hQ c a (some 42) _ w) (by kernel_rfl) (fun _ hS => run_ld (T := 9) (x := .tmp 41) (by kernel_rfl) (by kernel_rfl) (run_ld1 ⟨p, o, none⟩ 9 _ _ (by kernel_rfl) hS.2.1)) hS (by kernel_rfl) ?_
  refine held_to (a' := frAct (Bs32_0 p o q) (Vs32_0 p o q) 29 15) 14 20 (d := some 43) (v := .int .i64 0) (by kernel_rfl) (by kernel_rfl) sel32 (ok32 14 (by omega)) (fun c a w => hQ c a (some 43) _ w) (by kernel_rfl) (fun _ _ => by kernel_rfl) hS (by kernel_rfl) ?_
  refine held_to (a' := frAct (Bs32_0 p o q) (Vs32_0 p o q) 29 16) 15 20 (d := some 44) (v := .int .i64 0) (by kernel_rfl) (by kernel_rfl) sel32 (ok32 15 (by omega)) (fun c a w => hQ c a (some 44) _ w) (by kernel_rfl) (fun _ _ => by kernel_rfl) hS (by kernel_rfl) ?_
  refine held_to (a' := frAct (Bs32_0 p o q) (Vs32_0 p o q) 29 17) 16 20 (d := some 45) (v := .string ⟨#[]⟩) (by kernel_rfl) (by kernel_rfl) sel32 (ok32 16 (by omega)) (fun c a w => hQ c a (some 45) _ w) (by kernel_rfl) (fun _ _ => by kernel_rfl) hS (by kernel_rfl) ?_
  refine held_to (a' := frAct (Bs32_0 p o q) (Vs32_0 p o q) 29 18) 17 20 (d := some 46) (v := .agg #[.string ⟨#[]⟩, .string ⟨#[]⟩, .string ⟨#[]⟩, .string ⟨#[]⟩, .string ⟨#[]⟩, .int .i64 1, .int .i64 0, .int .i64 0]) (by kernel_rfl) (by kernel_rfl) sel32 (ok32 17 (by omega)) (fun c a w => hQ c a (some 46) _ w) (by kernel_rfl) (fun _ _ => by kernel_rfl) hS (by kernel_rfl) ?_
  refine held_ready1 18 (by kernel_rfl) (by kernel_rfl) (by kernel_rfl) ?_
  refine wp_value (d := some 47) (v := .pointer (some ⟨W.drew.heap.size, 0, none⟩)) (w' := W.drew.alloc (.cells #[.string ⟨#[]⟩, .string ⟨#[]⟩, .string ⟨#[]⟩, .string ⟨#[]⟩, .string ⟨#[]⟩, .int .i64 1, .int .i64 0, .int .i64 0] 219)) (by kernel_rfl) (by kernel_rfl) ?_
  have hS2 : S32 p o q 0 (W.drew.alloc (.cells #[.string ⟨#[]⟩, .string ⟨#[]⟩, .string ⟨#[]⟩, .string ⟨#[]⟩, .string ⟨#[]⟩, .int .i64 1, .int .i64 0, .int .i64 0] 219)) := ⟨hS.1.alloc _, (((Below.refl W.drew.heap.size W.drew).alloc (Nat.le_refl _) _).cell (cell_lt hS.2.1)).trans hS.2.1, fun j u hu => (((Below.refl W.drew.heap.size W.drew).alloc (Nat.le_refl _) _).cell (cell_lt (hS.2.2 j u hu))).trans (hS.2.2 j u hu)⟩
  refine ⟨hS2, ?_⟩
  rw [Lk_succ]
  obtain ⟨g, hg⟩ : ∃ g, g = W.drew.heap.size := ⟨_, rfl⟩
  rw [← hg]
  refine held_ready1 19 (by kernel_rfl) (by kernel_rfl) (by kernel_rfl) ?_
  refine wp_value (d := some 4) (v := .pointer (some ⟨g, 0, none⟩)) (w' := W.drew.alloc (.cells #[.string ⟨#[]⟩, .string ⟨#[]⟩, .string ⟨#[]⟩, .string ⟨#[]⟩, .string ⟨#[]⟩, .int .i64 1, .int .i64 0, .int .i64 0] 219)) (by kernel_rfl) (by kernel_rfl) ?_
  refine ⟨hS2, ?_⟩
  rw [Lk_succ]
  exact held_done (by kernel_rfl) (by kernel_rfl) (hend g _ hg rfl)
def Bs32_1 (p o q : Nat) : List Value := [.pointer (some ⟨p, o, none⟩), .agg #[.int .i32 0, .int .i32 1], undef, .pointer (some ⟨q, 0, none⟩), .pointer none, .int .i64 0, .int .i64 0, .int .i64 0, .int .i64 0, .pointer (some ⟨p, o, none⟩), .bool false, .bool false, .pointer (some ⟨p, o, none⟩), .pointer (some ⟨p, o, none⟩), .pointer (some ⟨p, o + 9, none⟩), .bool true, .bool false, .bool false, .tuple #[.int .i64 0, .int .i64 0, .int .i64 0, .int .i64 0], .pointer (some ⟨p, o, none⟩), .pointer (some ⟨q, 0, none⟩), .pointer (some ⟨q, 0, none⟩), .int .i32 0, .int .i64 0, .tuple #[.int .i64 0, .int .i64 0, .int .i64 0, .int .i64 0], .int .i64 0, .int .i64 0, .int .i64 0, .int .i64 0, undef, undef, undef, undef, undef, undef, undef, undef, undef, undef, undef, undef, undef, undef, undef, undef, undef, undef, undef]
def Vs32_1 (p o q : Nat) : List Value := [.pointer (some ⟨p, o, none⟩), .pointer (some ⟨p, o, none⟩), .pointer (some ⟨p, o + 1, none⟩), .agg #[.string ⟨#[]⟩, .string ⟨#[]⟩], .int .i64 0, .int .i64 1, .int .i64 0, .pointer (some ⟨q, 1, none⟩), .int .i32 1, .int .i64 1, .pointer (some ⟨p, o, none⟩), .pointer (some ⟨p, o, none⟩), .pointer (some ⟨p, o, none⟩), .string ⟨#[]⟩, .int .i64 0, .int .i64 0, .string ⟨#[]⟩, .agg #[.string ⟨#[]⟩, .string ⟨#[]⟩, .string ⟨#[]⟩, .string ⟨#[]⟩, .string ⟨#[]⟩, .int .i64 1, .int .i64 0, .int .i64 1]]
theorem rgn32_1 {Q : Exit → Act → World → Prop} (hQ : ∀ c a d v w, Q (.panic c) (a.put d v) w → Q (.panic c) a w) (p o q : Nat) (W : World) (hS : S32 p o q 1 W)
    (hend : ∀ g W', g = W.heap.size → W' = W.drew.alloc (.cells #[.string ⟨#[]⟩, .string ⟨#[]⟩, .string ⟨#[]⟩, .string ⟨#[]⟩, .string ⟨#[]⟩, .int .i64 1, .int .i64 0, .int .i64 1] 219) → Q .normal ⟨List.toArray (Value.pointer (some ⟨p, o, none⟩) :: Value.agg #[.int .i32 0, .int .i32 1] :: undef :: Value.pointer (some ⟨q, 0, none⟩) :: Value.pointer (some ⟨g, 0, none⟩) :: Value.int .i64 0 :: Value.int .i64 0 :: Value.int .i64 0 :: Value.int .i64 0 :: Value.pointer (some ⟨p, o, none⟩) :: Value.bool false :: Value.bool false :: Value.pointer (some ⟨p, o, none⟩) :: Value.pointer (some ⟨p, o, none⟩) :: Value.pointer (some ⟨p, o + 9, none⟩) :: Value.bool true :: Value.bool false :: Value.bool false :: Value.tuple #[.int .i64 0, .int .i64 0, .int .i64 0, .int .i64 0] :: Value.pointer (some ⟨p, o, none⟩) :: Value.pointer (some ⟨q, 0, none⟩) :: Value.pointer (some ⟨q, 0, none⟩) :: Value.int .i32 0 :: Value.int .i64 0 :: Value.tuple #[.int .i64 0, .int .i64 0, .int .i64 0, .int .i64 0] :: Value.int .i64 0 :: Value.int .i64 0 :: Value.int .i64 0 :: Value.int .i64 0 :: Value.pointer (some ⟨p, o, none⟩) :: Value.pointer (some ⟨p, o, none⟩) :: Value.pointer (some ⟨p, o + 1, none⟩) :: Value.agg #[.string ⟨#[]⟩, .string ⟨#[]⟩] :: Value.int .i64 0 :: Value.int .i64 1 :: Value.int .i64 0 :: Value.pointer (some ⟨q, 1, none⟩) :: Value.int .i32 1 :: Value.int .i64 1 :: Value.pointer (some ⟨p, o, none⟩) :: Value.pointer (some ⟨p, o, none⟩) :: Value.pointer (some ⟨p, o, none⟩) :: Value.string ⟨#[]⟩ :: Value.int .i64 0 :: Value.int .i64 0 :: Value.string ⟨#[]⟩ :: Value.agg #[.string ⟨#[]⟩, .string ⟨#[]⟩, .string ⟨#[]⟩, .string ⟨#[]⟩, .string ⟨#[]⟩, .int .i64 1, .int .i64 0, .int .i64 1] :: Value.pointer (some ⟨g, 0, none⟩) :: []), []⟩ W') : (Code.region 4 rg32.toArray true).wp Tryf.prog Q ⟨List.toArray (Value.pointer (some ⟨p, o, none⟩) :: Value.agg #[.int .i32 0, .int .i32 1] :: undef :: Value.pointer (some ⟨q, 0, none⟩) :: Value.pointer none :: Value.int .i64 0 :: Value.int .i64 0 :: Value.int .i64 0 :: Value.int .i64 0 :: Value.pointer (some ⟨p, o, none⟩) :: Value.bool false :: Value.bool false :: Value.pointer (some ⟨p, o, none⟩) :: Value.pointer (some ⟨p, o, none⟩) :: Value.pointer (some ⟨p, o + 9, none⟩) :: Value.bool true :: Value.bool false :: Value.bool false :: Value.tuple #[.int .i64 0, .int .i64 0, .int .i64 0, .int .i64 0] :: Value.pointer (some ⟨p, o, none⟩) :: Value.pointer (some ⟨q, 0, none⟩) :: Value.pointer (some ⟨q, 0, none⟩) :: Value.int .i32 0 :: Value.int .i64 0 :: Value.tuple #[.int .i64 0, .int .i64 0, .int .i64 0, .int .i64 0] :: Value.int .i64 0 :: Value.int .i64 0 :: Value.int .i64 0 :: Value.int .i64 0 :: undef :: undef :: undef :: undef :: undef :: undef :: undef :: undef :: undef :: undef :: undef :: undef :: undef :: undef :: undef :: undef :: undef :: undef :: undef :: []), []⟩ W := by
  refine held_begin (N := 20) (S := S32 p o q 1) (a' := frAct (Bs32_1 p o q) (Vs32_1 p o q) 29 0) (by kernel_rfl) (by kernel_rfl) (by kernel_rfl) (show S32 p o q 1 W.drew from hS) (fun hS => ?_)
  refine held_to (a' := frAct (Bs32_1 p o q) (Vs32_1 p o q) 29 1) 0 20 (d := some 29) (v := .pointer (some ⟨p, o, none⟩)) (by kernel_rfl) (by kernel_rfl) sel32 (ok32 0 (by omega)) (fun c a w => hQ c a (some 29) _ w) (by kernel_rfl) (fun _ _ => by kernel_rfl) hS (by kernel_rfl) ?_
  refine held_to (a' := frAct (Bs32_1 p o q) (Vs32_1 p o q) 29 2) 1 20 (d := some 30) (v := .pointer (some ⟨p, o, none⟩)) (by kernel_rfl) (by kernel_rfl) sel32 (ok32 1 (by omega)) (fun c a w => hQ c a (some 30) _ w) (by kernel_rfl) (fun _ _ => by kernel_rfl) hS (by kernel_rfl) ?_
  refine held_to (a' := frAct (Bs32_1 p o q) (Vs32_1 p o q) 29 3) 2 20 (d := some 31) (v := .pointer (some ⟨p, o + 1, none⟩)) (by kernel_rfl) (by kernel_rfl) sel32 (ok32 2 (by omega)) (fun c a w => hQ c a (some 31) _ w) (by kernel_rfl) (fun _ _ => by kernel_rfl) hS (by kernel_rfl) ?_
  refine held_to (a' := frAct (Bs32_1 p o q) (Vs32_1 p o q) 29 4) 3 20 (d := some 32) (v := .agg #[.string ⟨#[]⟩, .string ⟨#[]⟩]) (by kernel_rfl) (by kernel_rfl) sel32 (ok32 3 (by omega)) (fun c a w => hQ c a (some 32) _ w) (by kernel_rfl) (fun _ hS => run_ld (T := 86) (x := .tmp 31) (by kernel_rfl) (by kernel_rfl) (run_loadVar_mid _ p (o + 1) 86 [.string ⟨#[]⟩, .string ⟨#[]⟩] _ hS.2.2 Tryf.underlying86 rfl (by kernel_rfl))) hS (by kernel_rfl) ?_
  refine held_to (a' := frAct (Bs32_1 p o q) (Vs32_1 p o q) 29 5) 4 20 (d := some 33) (v := .int .i64 0) (by kernel_rfl) (by kernel_rfl) sel32 (ok32 4 (by omega)) (fun c a w => hQ c a (some 33) _ w) (by kernel_rfl) (fun _ _ => by kernel_rfl) hS (by kernel_rfl) ?_
  refine held_to (a' := frAct (Bs32_1 p o q) (Vs32_1 p o q) 29 6) 5 20 (d := some 34) (v := .int .i64 1) (by kernel_rfl) (by kernel_rfl) sel32 (ok32 5 (by omega)) (fun c a w => hQ c a (some 34) _ w) (by kernel_rfl) (fun _ _ => by kernel_rfl) hS (by kernel_rfl) ?_
  refine held_to (a' := frAct (Bs32_1 p o q) (Vs32_1 p o q) 29 7) 6 20 (d := some 35) (v := .int .i64 0) (by kernel_rfl) (by kernel_rfl) sel32 (ok32 6 (by omega)) (fun c a w => hQ c a (some 35) _ w) (by kernel_rfl) (fun _ _ => by kernel_rfl) hS (by kernel_rfl) ?_
  refine held_to (a' := frAct (Bs32_1 p o q) (Vs32_1 p o q) 29 8) 7 20 (d := some 36) (v := .pointer (some ⟨q, 1, none⟩)) (by kernel_rfl) (by kernel_rfl) sel32 (ok32 7 (by omega)) (fun c a w => hQ c a (some 36) _ w) (by kernel_rfl) (fun _ _ => by kernel_rfl) hS (by kernel_rfl) ?_
  refine held_to (a' := frAct (Bs32_1 p o q) (Vs32_1 p o q) 29 9) 8 20 (d := some 37) (v := .int .i32 1) (by kernel_rfl) (by kernel_rfl) sel32 (ok32 8 (by omega)) (fun c a w => hQ c a (some 37) _ w) (by kernel_rfl) (fun _ hS => run_ld (T := 21) (x := .tmp 36) (by kernel_rfl) (by kernel_rfl) (run_ld1 ⟨q, 1, none⟩ 21 _ _ (by kernel_rfl) (hS.1.cellv (j := 1) (by rfl)))) hS (by kernel_rfl) ?_
  refine held_to (a' := frAct (Bs32_1 p o q) (Vs32_1 p o q) 29 10) 9 20 (d := some 38) (v := .int .i64 1) (by kernel_rfl) (by kernel_rfl) sel32 (ok32 9 (by omega)) (fun c a w => hQ c a (some 38) _ w) (by kernel_rfl) (fun _ _ => by kernel_rfl) hS (by kernel_rfl) ?_
  refine held_to (a' := frAct (Bs32_1 p o q) (Vs32_1 p o q) 29 11) 10 20 (d := some 39) (v := .pointer (some ⟨p, o, none⟩)) (by kernel_rfl) (by kernel_rfl) sel32 (ok32 10 (by omega)) (fun c a w => hQ c a (some 39) _ w) (by kernel_rfl) (fun _ _ => by kernel_rfl) hS (by kernel_rfl) ?_
  refine held_to (a' := frAct (Bs32_1 p o q) (Vs32_1 p o q) 29 12) 11 20 (d := some 40) (v := .pointer (some ⟨p, o, none⟩)) (by kernel_rfl) (by kernel_rfl) sel32 (ok32 11 (by omega)) (fun c a w => hQ c a (some 40) _ w) (by kernel_rfl) (fun _ _ => by kernel_rfl) hS (by kernel_rfl) ?_
  refine held_to (a' := frAct (Bs32_1 p o q) (Vs32_1 p o q) 29 13) 12 20 (d := some 41) (v := .pointer (some ⟨p, o, none⟩)) (by kernel_rfl) (by kernel_rfl) sel32 (ok32 12 (by omega)) (fun c a w => hQ c a (some 41) _ w) (by kernel_rfl) (fun _ _ => by kernel_rfl) hS (by kernel_rfl) ?_
  refine held_to (a' := frAct (Bs32_1 p o q) (Vs32_1 p o q) 29 14) 13 20 (d := some 42) (v := .string ⟨#[]⟩) (by kernel_rfl) (by kernel_rfl) sel32 (ok32 13 (by omega)) (fun c a w => hQ c a (some 42) _ w) (by kernel_rfl) (fun _ hS => run_ld (T := 9) (x := .tmp 41) (by kernel_rfl) (by kernel_rfl) (run_ld1 ⟨p, o, none⟩ 9 _ _ (by kernel_rfl) hS.2.1)) hS (by kernel_rfl) ?_
  refine held_to (a' := frAct (Bs32_1 p o q) (Vs32_1 p o q) 29 15) 14 20 (d := some 43) (v := .int .i64 0) (by kernel_rfl) (by kernel_rfl) sel32 (ok32 14 (by omega)) (fun c a w => hQ c a (some 43) _ w) (by kernel_rfl) (fun _ _ => by kernel_rfl) hS (by kernel_rfl) ?_
  refine held_to (a' := frAct (Bs32_1 p o q) (Vs32_1 p o q) 29 16) 15 20 (d := some 44) (v := .int .i64 0) (by kernel_rfl) (by kernel_rfl) sel32 (ok32 15 (by omega)) (fun c a w => hQ c a (some 44) _ w) (by kernel_rfl) (fun _ _ => by kernel_rfl) hS (by kernel_rfl) ?_
  refine held_to (a' := frAct (Bs32_1 p o q) (Vs32_1 p o q) 29 17) 16 20 (d := some 45) (v := .string ⟨#[]⟩) (by kernel_rfl) (by kernel_rfl) sel32 (ok32 16 (by omega)) (fun c a w => hQ c a (some 45) _ w) (by kernel_rfl) (fun _ _ => by kernel_rfl) hS (by kernel_rfl) ?_
  refine held_to (a' := frAct (Bs32_1 p o q) (Vs32_1 p o q) 29 18) 17 20 (d := some 46) (v := .agg #[.string ⟨#[]⟩, .string ⟨#[]⟩, .string ⟨#[]⟩, .string ⟨#[]⟩, .string ⟨#[]⟩, .int .i64 1, .int .i64 0, .int .i64 1]) (by kernel_rfl) (by kernel_rfl) sel32 (ok32 17 (by omega)) (fun c a w => hQ c a (some 46) _ w) (by kernel_rfl) (fun _ _ => by kernel_rfl) hS (by kernel_rfl) ?_
  refine held_ready1 18 (by kernel_rfl) (by kernel_rfl) (by kernel_rfl) ?_
  refine wp_value (d := some 47) (v := .pointer (some ⟨W.drew.heap.size, 0, none⟩)) (w' := W.drew.alloc (.cells #[.string ⟨#[]⟩, .string ⟨#[]⟩, .string ⟨#[]⟩, .string ⟨#[]⟩, .string ⟨#[]⟩, .int .i64 1, .int .i64 0, .int .i64 1] 219)) (by kernel_rfl) (by kernel_rfl) ?_
  have hS2 : S32 p o q 1 (W.drew.alloc (.cells #[.string ⟨#[]⟩, .string ⟨#[]⟩, .string ⟨#[]⟩, .string ⟨#[]⟩, .string ⟨#[]⟩, .int .i64 1, .int .i64 0, .int .i64 1] 219)) := ⟨hS.1.alloc _, (((Below.refl W.drew.heap.size W.drew).alloc (Nat.le_refl _) _).cell (cell_lt hS.2.1)).trans hS.2.1, fun j u hu => (((Below.refl W.drew.heap.size W.drew).alloc (Nat.le_refl _) _).cell (cell_lt (hS.2.2 j u hu))).trans (hS.2.2 j u hu)⟩
  refine ⟨hS2, ?_⟩
  rw [Lk_succ]
  obtain ⟨g, hg⟩ : ∃ g, g = W.drew.heap.size := ⟨_, rfl⟩
  rw [← hg]
  refine held_ready1 19 (by kernel_rfl) (by kernel_rfl) (by kernel_rfl) ?_
  refine wp_value (d := some 4) (v := .pointer (some ⟨g, 0, none⟩)) (w' := W.drew.alloc (.cells #[.string ⟨#[]⟩, .string ⟨#[]⟩, .string ⟨#[]⟩, .string ⟨#[]⟩, .string ⟨#[]⟩, .int .i64 1, .int .i64 0, .int .i64 1] 219)) (by kernel_rfl) (by kernel_rfl) ?_
  refine ⟨hS2, ?_⟩
  rw [Lk_succ]
  exact held_done (by kernel_rfl) (by kernel_rfl) (hend g _ hg rfl)
def LocIs (p o t B : Nat) (cs : Array Value) (W : World) (e : Ending) (W' : World) : Prop := (∃ g, e = .returned (.pointer (some ⟨g, 0, none⟩))) ∧ RowAt W' p (cs.setIfInBounds (o + 8) (.bool true)) t ∧ Fp p W W' ∧ Below B W W'
theorem trk_range {w : World} {p o t : Nat} {cs : Array Value} (r : RowAt w p cs t) (h : At cs (trkL o)) : w.rangeAt p (o + 1) [.string ⟨#[]⟩, .string ⟨#[]⟩] := by
  intro j u hu
  match j, hu with
  | 0, hu => cases hu; exact r.cellv (h.get 1 rfl)
  | 1, hu => cases hu; exact r.cellv (h.get 2 rfl)
  | j + 2, hu => simp at hu
set_option maxHeartbeats 4000000 in
theorem loc32_0 (p o t B : Nat) (b : Bool) (cs : Array Value) (W : World) (r : RowAt W p cs t) (hT : At cs (trkL o)) (hb : cs[o + 8]? = some (.bool b)) (hB : B ≤ p) :
    Calls Tryf.prog 32 #[.pointer (some ⟨p, o, none⟩), .agg #[.int .i32 0, .int .i32 0]] W (LocIs p o t B cs W) := by
  have hp := r.lt
  have r1 := r.alloc (.cells #[.int .i32 0, .int .i32 0] 41)
  have hne : W.heap.size ≠ p := by omega
  have hF1 : Fp p W (W.alloc (.cells #[.int .i32 0, .int .i32 0] 41)) := Fp.below ((Below.refl _ _).alloc (Nat.le_refl _) _)
  have hB1 : Below B W (W.alloc (.cells #[.int .i32 0, .int .i32 0] 41)) := (Below.refl _ _).alloc (by omega) _
  have rq : RowAt (W.alloc (.cells #[.int .i32 0, .int .i32 0] 41)) W.heap.size #[.int .i32 0, .int .i32 0] 41 := RowAt.new W _ _
  have c9 := r1.cellv (hT.get 8 rfl)
  have HH := Lib.hid (And.intro r1 (And.intro hT (And.intro hb (And.intro hF1 (And.intro hB1 rq)))))
  clear r r1 hT hb hF1 hB1 rq
  go_enter Tryf.func32, Tryf.ntmps32
  go_wp2_with fail
  refine (comp43 p o t B b cs _ HH.out.1 HH.out.2.1 HH.out.2.2.1 hB).mono ?_
  rintro e w1 ⟨rfl, r2, hF2, hB2⟩
  have rq2 := hF2 _ _ _ hne HH.out.2.2.2.2.2
  have hT2 := trkL_set HH.out.2.1 (.bool true)
  have HS := Lib.hid (show S32 p o W.heap.size 0 w1 from ⟨rq2, r2.cellv (hT2.get 0 rfl), trk_range r2 hT2⟩)
  have H2 := Lib.hid (And.intro r2 (And.intro (HH.out.2.2.2.1.trans hF2) (HH.out.2.2.2.2.1.trans hB2)))
  clear r2 hF2 hB2 rq2 hT2 c9
  go_wp2_with fail
  refine reg_conv rg32 (by kernel_rfl) ?_
  refine rgn32_0 (fun c a d v w h => by cases d <;> exact h) p o W.heap.size w1 HS.out (fun g W2 hg hW2 => ?_)
  have r3 : RowAt W2 p (cs.setIfInBounds (o + 8) (.bool true)) t := by rw [hW2]; exact (H2.out.1.drewN 1).alloc _
  have b3 : Below w1.heap.size w1 W2 := by rw [hW2]; exact (below_drewN (Below.refl _ _) 1).alloc (Nat.le_refl _) _
  have H3 := Lib.hid (And.intro r3 (And.intro (H2.out.2.1.trans (Fp.below b3)) (H2.out.2.2.trans (b3.mono (by have := H2.out.2.2.size; have := H2.out.1.lt; omega)))))
  clear r3 b3 hW2 hg H2 HS
  go_wp2_with fail
  go_ret
  exact ⟨⟨g, rfl⟩, H3.out⟩
set_option maxHeartbeats 4000000 in
theorem loc32_1 (p o t B : Nat) (b : Bool) (cs : Array Value) (W : World) (r : RowAt W p cs t) (hT : At cs (trkL o)) (hb : cs[o + 8]? = some (.bool b)) (hB : B ≤ p) :
    Calls Tryf.prog 32 #[.pointer (some ⟨p, o, none⟩), .agg #[.int .i32 0, .int .i32 1]] W (LocIs p o t B cs W) := by
  have hp := r.lt
  have r1 := r.alloc (.cells #[.int .i32 0, .int .i32 1] 41)
  have hne : W.heap.size ≠ p := by omega
  have hF1 : Fp p W (W.alloc (.cells #[.int .i32 0, .int .i32 1] 41)) := Fp.below ((Below.refl _ _).alloc (Nat.le_refl _) _)
  have hB1 : Below B W (W.alloc (.cells #[.int .i32 0, .int .i32 1] 41)) := (Below.refl _ _).alloc (by omega) _
  have rq : RowAt (W.alloc (.cells #[.int .i32 0, .int .i32 1] 41)) W.heap.size #[.int .i32 0, .int .i32 1] 41 := RowAt.new W _ _
  have c9 := r1.cellv (hT.get 8 rfl)
  have HH := Lib.hid (And.intro r1 (And.intro hT (And.intro hb (And.intro hF1 (And.intro hB1 rq)))))
  clear r r1 hT hb hF1 hB1 rq
  go_enter Tryf.func32, Tryf.ntmps32
  go_wp2_with fail
  refine (comp43 p o t B b cs _ HH.out.1 HH.out.2.1 HH.out.2.2.1 hB).mono ?_
  rintro e w1 ⟨rfl, r2, hF2, hB2⟩
  have rq2 := hF2 _ _ _ hne HH.out.2.2.2.2.2
  have hT2 := trkL_set HH.out.2.1 (.bool true)
  have HS := Lib.hid (show S32 p o W.heap.size 1 w1 from ⟨rq2, r2.cellv (hT2.get 0 rfl), trk_range r2 hT2⟩)
  have H2 := Lib.hid (And.intro r2 (And.intro (HH.out.2.2.2.1.trans hF2) (HH.out.2.2.2.2.1.trans hB2)))
  clear r2 hF2 hB2 rq2 hT2 c9
  go_wp2_with fail
  refine reg_conv rg32 (by kernel_rfl) ?_
  refine rgn32_1 (fun c a d v w h => by cases d <;> exact h) p o W.heap.size w1 HS.out (fun g W2 hg hW2 => ?_)
  have r3 : RowAt W2 p (cs.setIfInBounds (o + 8) (.bool true)) t := by rw [hW2]; exact (H2.out.1.drewN 1).alloc _
  have b3 : Below w1.heap.size w1 W2 := by rw [hW2]; exact (below_drewN (Below.refl _ _) 1).alloc (Nat.le_refl _) _
  have H3 := Lib.hid (And.intro r3 (And.intro (H2.out.2.1.trans (Fp.below b3)) (H2.out.2.2.trans (b3.mono (by have := H2.out.2.2.size; have := H2.out.1.lt; omega)))))
  clear r3 b3 hW2 hg H2 HS
  go_wp2_with fail
  go_ret
  exact ⟨⟨g, rfl⟩, H3.out⟩
def DatIs (p o t B : Nat) (cs : Array Value) (tx : ByteArray) (W : World) (e : Ending) (W' : World) : Prop := (∃ g, e = .returned (.agg #[.nilIface, .pointer (some ⟨g, 0, none⟩), .string tx, .bool false])) ∧ RowAt W' p (cs.setIfInBounds (o + 8) (.bool true)) t ∧ Fp p W W' ∧ Below B W W'
set_option maxHeartbeats 4000000 in
theorem data26_0 (p o t B : Nat) (b : Bool) (tx : ByteArray) (cs : Array Value) (W : World) (r : RowAt W p cs t) (hT : At cs (trkL o)) (hb : cs[o + 8]? = some (.bool b)) (hB : B ≤ p) :
    Calls Tryf.prog 26 #[.pointer (some ⟨p, o, none⟩), .agg #[.int .i32 0, .int .i32 0], .string tx] W (DatIs p o t B cs tx W) := by
  have hp := r.lt
  have hb0 : Below W.heap.size W ((W.alloc (.cells #[.int .i32 0, .int .i32 0] 41)).alloc (.cells #[.nilIface, .pointer none, .string ⟨#[]⟩, .bool false] 30)) := ((Below.refl _ _).alloc (Nat.le_refl _) _).alloc (by simp) _
  have r1 := r.below hb0 hp
  have rr : RowAt ((W.alloc (.cells #[.int .i32 0, .int .i32 0] 41)).alloc (.cells #[.nilIface, .pointer none, .string ⟨#[]⟩, .bool false] 30)) (W.heap.size + 1) #[.nilIface, .pointer none, .string ⟨#[]⟩, .bool false] 30 := RowAt.newAt (by simp)
  have HH := Lib.hid (And.intro r1 (And.intro hT (And.intro hb (And.intro hb0 rr))))
  clear r r1 hT hb hb0 rr
  go_enter Tryf.func26, Tryf.ntmps26
  go_wp2_with fail
  refine (loc32_0 p o t B b cs _ HH.out.1 HH.out.2.1 HH.out.2.2.1 hB).mono ?_
  rintro e w1 ⟨⟨g, rfl⟩, r2, hF2, hB2⟩
  have rr1 := hF2 _ _ _ (by omega) HH.out.2.2.2.2
  have c0 := rr1.cellv (j := 0) (v := .nilIface) rfl
  have c1 := rr1.cellv (j := 1) (v := .pointer none) rfl
  have c2 := rr1.cellv (j := 2) (v := .string ⟨#[]⟩) rfl
  have c3 := rr1.cellv (j := 3) (v := .bool false) rfl
  have H1 := Lib.hid (And.intro rr1 (And.intro r2 (And.intro ((Fp.below HH.out.2.2.2.1).trans hF2) ((HH.out.2.2.2.1.mono (by omega)).trans hB2))))
  clear rr1 r2 hF2 hB2 c0 c1 c2 c3
  go_wp2_with (refine wpList_store_row rfl 30 _ _ rfl (W.heap.size + 1) #[.nilIface, .pointer (some ⟨g, 0, none⟩), .string tx, .bool false] (by rfl) (by rfl) 30 _ H1.out.1 (by kernel_rfl) (by kernel_rfl) (by kernel_rfl) ?_)
  have hr9 := row_setRow (ds := #[.nilIface, .pointer (some ⟨g, 0, none⟩), .string tx, .bool false]) H1.out.1
  have hne : p ≠ W.heap.size + 1 := by omega
  exact bodyPost_ret (v := .agg #[.nilIface, .pointer (some ⟨g, 0, none⟩), .string tx, .bool false]) (results_cell Tryf.results26 (by rfl) (run_loadVar_mid _ (W.heap.size + 1) 0 30 _ _ (range_of hr9) Tryf.underlying30 rfl (by kernel_rfl))) rfl ⟨⟨g, rfl⟩, (setRow_other _ (W.heap.size + 1) p _ hne).trans H1.out.2.1, fun g' cs' t' hg' r' => (setRow_other _ (W.heap.size + 1) g' _ (by have := r'.lt; omega)).trans (H1.out.2.2.1 g' cs' t' hg' r'), below_setRow H1.out.2.2.2 (by omega) _⟩
set_option maxHeartbeats 4000000 in
theorem data26_1 (p o t B : Nat) (b : Bool) (tx : ByteArray) (cs : Array Value) (W : World) (r : RowAt W p cs t) (hT : At cs (trkL o)) (hb : cs[o + 8]? = some (.bool b)) (hB : B ≤ p) :
    Calls Tryf.prog 26 #[.pointer (some ⟨p, o, none⟩), .agg #[.int .i32 0, .int .i32 1], .string tx] W (DatIs p o t B cs tx W) := by
  have hp := r.lt
  have hb0 : Below W.heap.size W ((W.alloc (.cells #[.int .i32 0, .int .i32 1] 41)).alloc (.cells #[.nilIface, .pointer none, .string ⟨#[]⟩, .bool false] 30)) := ((Below.refl _ _).alloc (Nat.le_refl _) _).alloc (by simp) _
  have r1 := r.below hb0 hp
  have rr : RowAt ((W.alloc (.cells #[.int .i32 0, .int .i32 1] 41)).alloc (.cells #[.nilIface, .pointer none, .string ⟨#[]⟩, .bool false] 30)) (W.heap.size + 1) #[.nilIface, .pointer none, .string ⟨#[]⟩, .bool false] 30 := RowAt.newAt (by simp)
  have HH := Lib.hid (And.intro r1 (And.intro hT (And.intro hb (And.intro hb0 rr))))
  clear r r1 hT hb hb0 rr
  go_enter Tryf.func26, Tryf.ntmps26
  go_wp2_with fail
  refine (loc32_1 p o t B b cs _ HH.out.1 HH.out.2.1 HH.out.2.2.1 hB).mono ?_
  rintro e w1 ⟨⟨g, rfl⟩, r2, hF2, hB2⟩
  have rr1 := hF2 _ _ _ (by omega) HH.out.2.2.2.2
  have c0 := rr1.cellv (j := 0) (v := .nilIface) rfl
  have c1 := rr1.cellv (j := 1) (v := .pointer none) rfl
  have c2 := rr1.cellv (j := 2) (v := .string ⟨#[]⟩) rfl
  have c3 := rr1.cellv (j := 3) (v := .bool false) rfl
  have H1 := Lib.hid (And.intro rr1 (And.intro r2 (And.intro ((Fp.below HH.out.2.2.2.1).trans hF2) ((HH.out.2.2.2.1.mono (by omega)).trans hB2))))
  clear rr1 r2 hF2 hB2 c0 c1 c2 c3
  go_wp2_with (refine wpList_store_row rfl 30 _ _ rfl (W.heap.size + 1) #[.nilIface, .pointer (some ⟨g, 0, none⟩), .string tx, .bool false] (by rfl) (by rfl) 30 _ H1.out.1 (by kernel_rfl) (by kernel_rfl) (by kernel_rfl) ?_)
  have hr9 := row_setRow (ds := #[.nilIface, .pointer (some ⟨g, 0, none⟩), .string tx, .bool false]) H1.out.1
  have hne : p ≠ W.heap.size + 1 := by omega
  exact bodyPost_ret (v := .agg #[.nilIface, .pointer (some ⟨g, 0, none⟩), .string tx, .bool false]) (results_cell Tryf.results26 (by rfl) (run_loadVar_mid _ (W.heap.size + 1) 0 30 _ _ (range_of hr9) Tryf.underlying30 rfl (by kernel_rfl))) rfl ⟨⟨g, rfl⟩, (setRow_other _ (W.heap.size + 1) p _ hne).trans H1.out.2.1, fun g' cs' t' hg' r' => (setRow_other _ (W.heap.size + 1) g' _ (by have := r'.lt; omega)).trans (H1.out.2.2.1 g' cs' t' hg' r'), below_setRow H1.out.2.2.2 (by omega) _⟩

end Go.Proofs.YtidicogmfpfibaaFmt
