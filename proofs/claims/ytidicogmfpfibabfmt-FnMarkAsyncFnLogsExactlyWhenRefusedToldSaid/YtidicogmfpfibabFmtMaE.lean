import Derived.Test.YtidicogmfpfibabFmtKit
import Derived.Test.YtidicogmfpfibabFmtMaC
import Derived.Test.YtidicogmfpfibabFmtMaT
import Derived.Test.YtidicogmfpfibabFmtLaE
namespace Go.Proofs.YtidicogmfpfibabFmt
open Go.ChangeShapes Go.WideShapes Go.ChangeAt Go.RowKit
set_option linter.unusedVariables false
set_option maxRecDepth 100000
set_option maxHeartbeats 2000000

open Go.MuLone
noncomputable def rg50 : List Oper := rgAt Tryf.f50 4
theorem ok50_0 : ((List.range 15).all fun i => stepOk rg50.toArray 20 (0 + i)) = true := by kernel_rfl
theorem ok50_1 : ((List.range 3).all fun i => stepOk rg50.toArray 20 (15 + i)) = true := by kernel_rfl
theorem ok50 (j : Nat) (h : j < 18) : stepOk rg50.toArray 20 j = true := by
  by_cases h0 : j < 15; · exact chunk ok50_0 j (by omega) (by omega)
  exact chunk ok50_1 j (by omega) (by omega)
theorem sel50 : Region.noSelect rg50.toArray = true := by kernel_rfl
/-- What a location wants of memory: the range, the text, the paths. -/
def S50 (p o q st : Nat) (l : Int) (s : ByteArray) (W : World) : Prop := RowAt W q #[.int .i32 ((st : Nat) : Int), .int .i32 l] 54 ∧ W.cell? ⟨p, o, none⟩ = some (.string s) ∧ W.rangeAt p (o + 1) [.string ⟨#[]⟩, .string ⟨#[]⟩]
def Bs50 (p o q st ls le L : Nat) (l : Int) (s : ByteArray) : List Value := [.pointer (some ⟨p, o, none⟩), .agg #[.int .i32 ((st : Nat) : Int), .int .i32 l], undef, .pointer (some ⟨q, 0, none⟩), .pointer none, .int .i64 ((L : Nat) : Int), .int .i64 (((st : Nat) : Int) - ((ls : Nat) : Int)), .int .i64 ((ls : Nat) : Int), .int .i64 ((le : Nat) : Int), .pointer (some ⟨p, o, none⟩), .bool false, .bool false, .pointer (some ⟨p, o, none⟩), .pointer (some ⟨p, o, none⟩), .pointer (some ⟨p, o + 9, none⟩), .bool true, .bool false, .bool false, .tuple #[.int .i64 ((L : Nat) : Int), .int .i64 (((st : Nat) : Int) - ((ls : Nat) : Int)), .int .i64 ((ls : Nat) : Int), .int .i64 ((le : Nat) : Int)], .pointer (some ⟨p, o, none⟩), .pointer (some ⟨q, 0, none⟩), .pointer (some ⟨q, 0, none⟩), .int .i32 ((st : Nat) : Int), .int .i64 ((st : Nat) : Int), .tuple #[.int .i64 ((L : Nat) : Int), .int .i64 (((st : Nat) : Int) - ((ls : Nat) : Int)), .int .i64 ((ls : Nat) : Int), .int .i64 ((le : Nat) : Int)], .int .i64 ((L : Nat) : Int), .int .i64 (((st : Nat) : Int) - ((ls : Nat) : Int)), .int .i64 ((ls : Nat) : Int), .int .i64 ((le : Nat) : Int), undef, undef, undef, undef, undef, undef, undef, undef, undef, undef, undef, undef, undef, undef, undef, undef, undef, undef, undef]
def Vs50 (p o q st ls le L : Nat) (l : Int) (s : ByteArray) : List Value := [.pointer (some ⟨p, o, none⟩), .pointer (some ⟨p, o, none⟩), .pointer (some ⟨p, o + 1, none⟩), .agg #[.string ⟨#[]⟩, .string ⟨#[]⟩], .int .i64 ((L : Nat) : Int), .int .i64 (IntKind.i64.wrap (((L : Nat) : Int) + 1)), .int .i64 (((st : Nat) : Int) - ((ls : Nat) : Int)), .pointer (some ⟨q, 1, none⟩), .int .i32 l, .int .i64 (IntKind.i64.wrap l), .pointer (some ⟨p, o, none⟩), .pointer (some ⟨p, o, none⟩), .pointer (some ⟨p, o, none⟩), .string s, .int .i64 ((ls : Nat) : Int), .int .i64 ((le : Nat) : Int), .string (s.extract ls le), .agg #[.string ⟨#[]⟩, .string ⟨#[]⟩, .string ⟨#[]⟩, .string (s.extract ls le), .string ⟨#[]⟩, .int .i64 (IntKind.i64.wrap (((L : Nat) : Int) + 1)), .int .i64 (((st : Nat) : Int) - ((ls : Nat) : Int)), .int .i64 (IntKind.i64.wrap l)]]
theorem rgn50 {Q : Exit → Act → World → Prop} (hQ : ∀ c a d v w, Q (.panic c) (a.put d v) w → Q (.panic c) a w) (p o q st ls le L : Nat) (l : Int) (s : ByteArray) (hle : ls ≤ le) (hle2 : le ≤ s.size) (W : World) (hS : (S50 p o q st l s) W)
    (hend : ∀ g W', g = W.heap.size → W' = W.drew.alloc (.cells #[.string ⟨#[]⟩, .string ⟨#[]⟩, .string ⟨#[]⟩, .string (s.extract ls le), .string ⟨#[]⟩, .int .i64 (IntKind.i64.wrap (((L : Nat) : Int) + 1)), .int .i64 (((st : Nat) : Int) - ((ls : Nat) : Int)), .int .i64 (IntKind.i64.wrap l)] 215) → Q .normal ⟨List.toArray (Value.pointer (some ⟨p, o, none⟩) :: Value.agg #[.int .i32 ((st : Nat) : Int), .int .i32 l] :: undef :: Value.pointer (some ⟨q, 0, none⟩) :: Value.pointer (some ⟨g, 0, none⟩) :: Value.int .i64 ((L : Nat) : Int) :: Value.int .i64 (((st : Nat) : Int) - ((ls : Nat) : Int)) :: Value.int .i64 ((ls : Nat) : Int) :: Value.int .i64 ((le : Nat) : Int) :: Value.pointer (some ⟨p, o, none⟩) :: Value.bool false :: Value.bool false :: Value.pointer (some ⟨p, o, none⟩) :: Value.pointer (some ⟨p, o, none⟩) :: Value.pointer (some ⟨p, o + 9, none⟩) :: Value.bool true :: Value.bool false :: Value.bool false :: Value.tuple #[.int .i64 ((L : Nat) : Int), .int .i64 (((st : Nat) : Int) - ((ls : Nat) : Int)), .int .i64 ((ls : Nat) : Int), .int .i64 ((le : Nat) : Int)] :: Value.pointer (some ⟨p, o, none⟩) :: Value.pointer (some ⟨q, 0, none⟩) :: Value.pointer (some ⟨q, 0, none⟩) :: Value.int .i32 ((st : Nat) : Int) :: Value.int .i64 ((st : Nat) : Int) :: Value.tuple #[.int .i64 ((L : Nat) : Int), .int .i64 (((st : Nat) : Int) - ((ls : Nat) : Int)), .int .i64 ((ls : Nat) : Int), .int .i64 ((le : Nat) : Int)] :: Value.int .i64 ((L : Nat) : Int) :: Value.int .i64 (((st : Nat) : Int) - ((ls : Nat) : Int)) :: Value.int .i64 ((ls : Nat) : Int) :: Value.int .i64 ((le : Nat) : Int) :: Value.pointer (some ⟨p, o, none⟩) :: Value.pointer (some ⟨p, o, none⟩) :: Value.pointer (some ⟨p, o + 1, none⟩) :: Value.agg #[.string ⟨#[]⟩, .string ⟨#[]⟩] :: Value.int .i64 ((L : Nat) : Int) :: Value.int .i64 (IntKind.i64.wrap (((L : Nat) : Int) + 1)) :: Value.int .i64 (((st : Nat) : Int) - ((ls : Nat) : Int)) :: Value.pointer (some ⟨q, 1, none⟩) :: Value.int .i32 l :: Value.int .i64 (IntKind.i64.wrap l) :: Value.pointer (some ⟨p, o, none⟩) :: Value.pointer (some ⟨p, o, none⟩) :: Value.pointer (some ⟨p, o, none⟩) :: Value.string s :: Value.int .i64 ((ls : Nat) : Int) :: Value.int .i64 ((le : Nat) : Int) :: Value.string (s.extract ls le) :: Value.agg #[.string ⟨#[]⟩, .string ⟨#[]⟩, .string ⟨#[]⟩, .string (s.extract ls le), .string ⟨#[]⟩, .int .i64 (IntKind.i64.wrap (((L : Nat) : Int) + 1)), .int .i64 (((st : Nat) : Int) - ((ls : Nat) : Int)), .int .i64 (IntKind.i64.wrap l)] :: Value.pointer (some ⟨g, 0, none⟩) :: []), []⟩ W') : (Code.region 4 rg50.toArray true).wp Tryf.prog Q ⟨List.toArray (Value.pointer (some ⟨p, o, none⟩) :: Value.agg #[.int .i32 ((st : Nat) : Int), .int .i32 l] :: undef :: Value.pointer (some ⟨q, 0, none⟩) :: Value.pointer none :: Value.int .i64 ((L : Nat) : Int) :: Value.int .i64 (((st : Nat) : Int) - ((ls : Nat) : Int)) :: Value.int .i64 ((ls : Nat) : Int) :: Value.int .i64 ((le : Nat) : Int) :: Value.pointer (some ⟨p, o, none⟩) :: Value.bool false :: Value.bool false :: Value.pointer (some ⟨p, o, none⟩) :: Value.pointer (some ⟨p, o, none⟩) :: Value.pointer (some ⟨p, o + 9, none⟩) :: Value.bool true :: Value.bool false :: Value.bool false :: Value.tuple #[.int .i64 ((L : Nat) : Int), .int .i64 (((st : Nat) : Int) - ((ls : Nat) : Int)), .int .i64 ((ls : Nat) : Int), .int .i64 ((le : Nat) : Int)] :: Value.pointer (some ⟨p, o, none⟩) :: Value.pointer (some ⟨q, 0, none⟩) :: Value.pointer (some ⟨q, 0, none⟩) :: Value.int .i32 ((st : Nat) : Int) :: Value.int .i64 ((st : Nat) : Int) :: Value.tuple #[.int .i64 ((L : Nat) : Int), .int .i64 (((st : Nat) : Int) - ((ls : Nat) : Int)), .int .i64 ((ls : Nat) : Int), .int .i64 ((le : Nat) : Int)] :: Value.int .i64 ((L : Nat) : Int) :: Value.int .i64 (((st : Nat) : Int) - ((ls : Nat) : Int)) :: Value.int .i64 ((ls : Nat) : Int) :: Value.int .i64 ((le : Nat) : Int) :: undef :: undef :: undef :: undef :: undef :: undef :: undef :: undef :: undef :: undef :: undef :: undef :: undef :: undef :: undef :: undef :: undef :: undef :: undef :: []), []⟩ W := by
  refine held_begin (N := 20) (S := (S50 p o q st l s)) (a' := frAct (Bs50 p o q st ls le L l s) (Vs50 p o q st ls le L l s) 29 0) (by kernel_rfl) (by kernel_rfl) (by kernel_rfl) (show (S50 p o q st l s) W.drew from hS) (fun hS => ?_)
  refine held_to (a' := frAct (Bs50 p o q st ls le L l s) (Vs50 p o q st ls le L l s) 29 1) 0 20 (d := some 29) (v := .pointer (some ⟨p, o, none⟩)) (by kernel_rfl) (by kernel_rfl) sel50 (ok50 0 (by omega)) (fun c a w => hQ c a (some 29) _ w) (by kernel_rfl) (fun _ _ => by kernel_rfl) hS (by kernel_rfl) ?_
  refine held_to (a' := frAct (Bs50 p o q st ls le L l s) (Vs50 p o q st ls le L l s) 29 2) 1 20 (d := some 30) (v := .pointer (some ⟨p, o, none⟩)) (by kernel_rfl) (by kernel_rfl) sel50 (ok50 1 (by omega)) (fun c a w => hQ c a (some 30) _ w) (by kernel_rfl) (fun _ _ => by kernel_rfl) hS (by kernel_rfl) ?_
  refine held_to (a' := frAct (Bs50 p o q st ls le L l s) (Vs50 p o q st ls le L l s) 29 3) 2 20 (d := some 31) (v := .pointer (some ⟨p, o + 1, none⟩)) (by kernel_rfl) (by kernel_rfl) sel50 (ok50 2 (by omega)) (fun c a w => hQ c a (some 31) _ w) (by kernel_rfl) (fun _ _ => by kernel_rfl) hS (by kernel_rfl) ?_
  refine held_to (a' := frAct (Bs50 p o q st ls le L l s) (Vs50 p o q st ls le L l s) 29 4) 3 20 (d := some 32) (v := .agg #[.string ⟨#[]⟩, .string ⟨#[]⟩]) (by kernel_rfl) (by kernel_rfl) sel50 (ok50 3 (by omega)) (fun c a w => hQ c a (some 32) _ w) (by kernel_rfl) (fun _ hS => run_ld (T := 83) (x := .tmp 31) (by kernel_rfl) (by kernel_rfl) (run_loadVar_mid _ p (o + 1) 83 [.string ⟨#[]⟩, .string ⟨#[]⟩] _ hS.2.2 Tryf.underlying83 rfl (by kernel_rfl))) hS (by kernel_rfl) ?_
  refine held_to (a' := frAct (Bs50 p o q st ls le L l s) (Vs50 p o q st ls le L l s) 29 5) 4 20 (d := some 33) (v := .int .i64 ((L : Nat) : Int)) (by kernel_rfl) (by kernel_rfl) sel50 (ok50 4 (by omega)) (fun c a w => hQ c a (some 33) _ w) (by kernel_rfl) (fun _ _ => by kernel_rfl) hS (by kernel_rfl) ?_
  refine held_to (a' := frAct (Bs50 p o q st ls le L l s) (Vs50 p o q st ls le L l s) 29 6) 5 20 (d := some 34) (v := .int .i64 (IntKind.i64.wrap (((L : Nat) : Int) + 1))) (by kernel_rfl) (by kernel_rfl) sel50 (ok50 5 (by omega)) (fun c a w => hQ c a (some 34) _ w) (by kernel_rfl) (fun _ _ => by kernel_rfl) hS (by kernel_rfl) ?_
  refine held_to (a' := frAct (Bs50 p o q st ls le L l s) (Vs50 p o q st ls le L l s) 29 7) 6 20 (d := some 35) (v := .int .i64 (((st : Nat) : Int) - ((ls : Nat) : Int))) (by kernel_rfl) (by kernel_rfl) sel50 (ok50 6 (by omega)) (fun c a w => hQ c a (some 35) _ w) (by kernel_rfl) (fun _ _ => by kernel_rfl) hS (by kernel_rfl) ?_
  refine held_to (a' := frAct (Bs50 p o q st ls le L l s) (Vs50 p o q st ls le L l s) 29 8) 7 20 (d := some 36) (v := .pointer (some ⟨q, 1, none⟩)) (by kernel_rfl) (by kernel_rfl) sel50 (ok50 7 (by omega)) (fun c a w => hQ c a (some 36) _ w) (by kernel_rfl) (fun _ _ => by kernel_rfl) hS (by kernel_rfl) ?_
  refine held_to (a' := frAct (Bs50 p o q st ls le L l s) (Vs50 p o q st ls le L l s) 29 9) 8 20 (d := some 37) (v := .int .i32 l) (by kernel_rfl) (by kernel_rfl) sel50 (ok50 8 (by omega)) (fun c a w => hQ c a (some 37) _ w) (by kernel_rfl) (fun _ hS => run_ld (T := 21) (x := .tmp 36) (by kernel_rfl) (by kernel_rfl) (run_ld1 ⟨q, 1, none⟩ 21 _ _ (by kernel_rfl) (hS.1.cellv (j := 1) (by rfl)))) hS (by kernel_rfl) ?_
  refine held_to (a' := frAct (Bs50 p o q st ls le L l s) (Vs50 p o q st ls le L l s) 29 10) 9 20 (d := some 38) (v := .int .i64 (IntKind.i64.wrap l)) (by kernel_rfl) (by kernel_rfl) sel50 (ok50 9 (by omega)) (fun c a w => hQ c a (some 38) _ w) (by kernel_rfl) (fun _ _ => by kernel_rfl) hS (by kernel_rfl) ?_
  refine held_to (a' := frAct (Bs50 p o q st ls le L l s) (Vs50 p o q st ls le L l s) 29 11) 10 20 (d := some 39) (v := .pointer (some ⟨p, o, none⟩)) (by kernel_rfl) (by kernel_rfl) sel50 (ok50 10 (by omega)) (fun c a w => hQ c a (some 39) _ w) (by kernel_rfl) (fun _ _ => by kernel_rfl) hS (by kernel_rfl) ?_
  refine held_to (a' := frAct (Bs50 p o q st ls le L l s) (Vs50 p o q st ls le L l s) 29 12) 11 20 (d := some 40) (v := .pointer (some ⟨p, o, none⟩)) (by kernel_rfl) (by kernel_rfl) sel50 (ok50 11 (by omega)) (fun c a w => hQ c a (some 40) _ w) (by kernel_rfl) (fun _ _ => by kernel_rfl) hS (by kernel_rfl) ?_
  refine held_to (a' := frAct (Bs50 p o q st ls le L l s) (Vs50 p o q st ls le L l s) 29 13) 12 20 (d := some 41) (v := .pointer (some ⟨p, o, none⟩)) (by kernel_rfl) (by kernel_rfl) sel50 (ok50 12 (by omega)) (fun c a w => hQ c a (some 41) _ w) (by kernel_rfl) (fun _ _ => by kernel_rfl) hS (by kernel_rfl) ?_
  refine held_to (a' := frAct (Bs50 p o q st ls le L l s) (Vs50 p o q st ls le L l s) 29 14) 13 20 (d := some 42) (v := .string s) (by kernel_rfl) (by kernel_rfl) sel50 (ok50 13 (by omega)) (fun c a w => hQ c a (some 42) _ w) (by kernel_rfl) (fun _ hS => run_ld (T := 9) (x := .tmp 41) (by kernel_rfl) (by kernel_rfl) (run_ld1 ⟨p, o, none⟩ 9 _ _ (by kernel_rfl) hS.2.1)) hS (by kernel_rfl) ?_
  refine held_to (a' := frAct (Bs50 p o q st ls le L l s) (Vs50 p o q st ls le L l s) 29 15) 14 20 (d := some 43) (v := .int .i64 ((ls : Nat) : Int)) (by kernel_rfl) (by kernel_rfl) sel50 (ok50 14 (by omega)) (fun c a w => hQ c a (some 43) _ w) (by kernel_rfl) (fun _ _ => by kernel_rfl) hS (by kernel_rfl) ?_
  refine held_to (a' := frAct (Bs50 p o q st ls le L l s) (Vs50 p o q st ls le L l s) 29 16) 15 20 (d := some 44) (v := .int .i64 ((le : Nat) : Int)) (by kernel_rfl) (by kernel_rfl) sel50 (ok50 15 (by omega)) (fun c a w => hQ c a (some 44) _ w) (by kernel_rfl) (fun _ _ => by kernel_rfl) hS (by kernel_rfl) ?_
  refine held_to (a' := frAct (Bs50 p o q st ls le L l s) (Vs50 p o q st ls le L l s) 29 17) 16 20 (d := some 45) (v := .string (s.extract ls le)) (by kernel_rfl) (by kernel_rfl) sel50 (ok50 16 (by omega)) (fun c a w => hQ c a (some 45) _ w) (by kernel_rfl) (fun _ _ => run_sl (T := 9) (x := .tmp 42) (l := .tmp 43) (h := .tmp 44) (by kernel_rfl) (by kernel_rfl) (by kernel_rfl) (by kernel_rfl) (slice_mid s ls le hle hle2 _)) hS (by kernel_rfl) ?_
  refine held_to (a' := frAct (Bs50 p o q st ls le L l s) (Vs50 p o q st ls le L l s) 29 18) 17 20 (d := some 46) (v := .agg #[.string ⟨#[]⟩, .string ⟨#[]⟩, .string ⟨#[]⟩, .string (s.extract ls le), .string ⟨#[]⟩, .int .i64 (IntKind.i64.wrap (((L : Nat) : Int) + 1)), .int .i64 (((st : Nat) : Int) - ((ls : Nat) : Int)), .int .i64 (IntKind.i64.wrap l)]) (by kernel_rfl) (by kernel_rfl) sel50 (ok50 17 (by omega)) (fun c a w => hQ c a (some 46) _ w) (by kernel_rfl) (fun _ _ => by kernel_rfl) hS (by kernel_rfl) ?_
  refine held_ready1 18 (by kernel_rfl) (by kernel_rfl) (by kernel_rfl) ?_
  refine wp_value (d := some 47) (v := .pointer (some ⟨W.drew.heap.size, 0, none⟩)) (w' := W.drew.alloc (.cells #[.string ⟨#[]⟩, .string ⟨#[]⟩, .string ⟨#[]⟩, .string (s.extract ls le), .string ⟨#[]⟩, .int .i64 (IntKind.i64.wrap (((L : Nat) : Int) + 1)), .int .i64 (((st : Nat) : Int) - ((ls : Nat) : Int)), .int .i64 (IntKind.i64.wrap l)] 215)) (by kernel_rfl) (by kernel_rfl) ?_
  have hS2 : (S50 p o q st l s) (W.drew.alloc (.cells #[.string ⟨#[]⟩, .string ⟨#[]⟩, .string ⟨#[]⟩, .string (s.extract ls le), .string ⟨#[]⟩, .int .i64 (IntKind.i64.wrap (((L : Nat) : Int) + 1)), .int .i64 (((st : Nat) : Int) - ((ls : Nat) : Int)), .int .i64 (IntKind.i64.wrap l)] 215)) := ⟨hS.1.alloc _, (((Below.refl W.drew.heap.size W.drew).alloc (Nat.le_refl _) _).cell (cell_lt hS.2.1)).trans hS.2.1, fun j u hu => (((Below.refl W.drew.heap.size W.drew).alloc (Nat.le_refl _) _).cell (cell_lt (hS.2.2 j u hu))).trans (hS.2.2 j u hu)⟩
  refine ⟨hS2, ?_⟩
  rw [Lk_succ]
  obtain ⟨g, hg⟩ : ∃ g, g = W.drew.heap.size := ⟨_, rfl⟩
  rw [← hg]
  refine held_ready1 19 (by kernel_rfl) (by kernel_rfl) (by kernel_rfl) ?_
  refine wp_value (d := some 4) (v := .pointer (some ⟨g, 0, none⟩)) (w' := W.drew.alloc (.cells #[.string ⟨#[]⟩, .string ⟨#[]⟩, .string ⟨#[]⟩, .string (s.extract ls le), .string ⟨#[]⟩, .int .i64 (IntKind.i64.wrap (((L : Nat) : Int) + 1)), .int .i64 (((st : Nat) : Int) - ((ls : Nat) : Int)), .int .i64 (IntKind.i64.wrap l)] 215)) (by kernel_rfl) (by kernel_rfl) ?_
  refine ⟨hS2, ?_⟩
  rw [Lk_succ]
  exact held_done (by kernel_rfl) (by kernel_rfl) (hend g _ hg rfl)
def LocIs (p o t B : Nat) (cs0 : Array Value) (W : World) (e : Ending) (W' : World) : Prop := ∃ g cs, e = .returned (.pointer (some ⟨g, 0, none⟩)) ∧ RowAt W' p cs t ∧ Agree cs0 cs o ∧ Fp p W W' ∧ Below B W W'
theorem range2v {w : World} {q o t : Nat} {cs : Array Value} {v u' : Value} (r : RowAt w q cs t) (h0 : cs[o]? = some v) (h1 : cs[o + 1]? = some u') : w.rangeAt q o [v, u'] := by
  intro j u hu
  match j, hu with
  | 0, hu => cases hu; exact r.cellv h0
  | 1, hu => cases hu; exact r.cellv h1
  | j + 2, hu => simp at hu
set_option maxHeartbeats 4000000 in
theorem loc50 (hD : DecS) (s : ByteArray) (p o t B st : Nat) (l : Int) (cs0 : Array Value) (W : World) (r : RowAt W p cs0 t) (hA : At cs0 (tkL o s 0 0 0 0 false)) (h1 : cs0[o + 1]? = some (.string ⟨#[]⟩)) (h2 : cs0[o + 1 + 1]? = some (.string ⟨#[]⟩)) (hB : B ≤ p) (hT : TB B W) (hst : st ≤ s.size) (hs : s.size ≤ 1048576) :
    Calls Tryf.prog 50 #[.pointer (some ⟨p, o, none⟩), .agg #[.int .i32 ((st : Nat) : Int), .int .i32 l]] W (LocIs p o t B cs0 W) := by
  have hp := r.lt
  have r1 := r.alloc (.cells #[.int .i32 ((st : Nat) : Int), .int .i32 l] 54)
  have hne : W.heap.size ≠ p := by omega
  have hF1 : Fp p W (W.alloc (.cells #[.int .i32 ((st : Nat) : Int), .int .i32 l] 54)) := Fp.below ((Below.refl _ _).alloc (Nat.le_refl _) _)
  have hB1 : Below B W (W.alloc (.cells #[.int .i32 ((st : Nat) : Int), .int .i32 l] 54)) := (Below.refl _ _).alloc (by omega) _
  have rq : RowAt (W.alloc (.cells #[.int .i32 ((st : Nat) : Int), .int .i32 l] 54)) W.heap.size #[.int .i32 ((st : Nat) : Int), .int .i32 l] 54 := RowAt.new W _ _
  have c9 := r1.cellv (hA.get 7 rfl)
  have HH := Lib.hid (And.intro r1 (And.intro hA (And.intro hF1 (And.intro hB1 (And.intro rq (hT.below hB1))))))
  have HC := Lib.hid (And.intro h1 h2)
  clear r r1 hA hF1 hB1 rq hT h1 h2
  go_enter Tryf.func50, Tryf.ntmps50
  go_wp2_with fail
  refine (comp52 hD s p o t B st cs0 _ HH.out.1 HH.out.2.1 hB HH.out.2.2.2.2.2 hst hs).mono ?_
  rintro e w1 ⟨cs, off, L, ls, le, rfl, r2, ag2, tk2, hle, hle2, hL, hF2, hB2⟩
  have rq2 := hF2 _ _ _ hne HH.out.2.2.2.2.1
  have hr2 : w1.rangeAt p (o + 1) [.string ⟨#[]⟩, .string ⟨#[]⟩] := range2v r2 ((ag2 (o + 1) (by omega)).trans HC.out.1) ((ag2 (o + 1 + 1) (by omega)).trans HC.out.2)
  have HS := Lib.hid (show S50 p o W.heap.size st l s w1 from ⟨rq2, r2.cellv (tk2.get 0 rfl), hr2⟩)
  have H2 := Lib.hid (And.intro r2 (And.intro ag2 (And.intro (HH.out.2.2.1.trans hF2) (HH.out.2.2.2.1.trans hB2))))
  clear r2 ag2 tk2 hF2 hB2 rq2 hr2 c9
  go_wp2_with fail
  refine reg_conv rg50 (by kernel_rfl) ?_
  refine rgn50 (fun c a d v w h => by cases d <;> exact h) p o W.heap.size st ls le L l s hle hle2 w1 HS.out (fun g W2 hg hW2 => ?_)
  have r3 : RowAt W2 p cs t := by rw [hW2]; exact (H2.out.1.drewN 1).alloc _
  have b3 : Below w1.heap.size w1 W2 := by rw [hW2]; exact (below_drewN (Below.refl _ _) 1).alloc (Nat.le_refl _) _
  have H3 := Lib.hid (And.intro r3 (And.intro H2.out.2.1 (And.intro (H2.out.2.2.1.trans (Fp.below b3)) (H2.out.2.2.2.trans (b3.mono (by have := H2.out.2.2.2.size; have := H2.out.1.lt; omega))))))
  clear r3 b3 hW2 hg H2 HS
  go_wp2_with fail
  go_ret
  exact ⟨g, cs, rfl, H3.out⟩
def DatIs (p o t B : Nat) (cs0 : Array Value) (tx : ByteArray) (W : World) (e : Ending) (W' : World) : Prop := ∃ g cs, e = .returned (.agg #[.nilIface, .pointer (some ⟨g, 0, none⟩), .string tx, .bool false]) ∧ RowAt W' p cs t ∧ Agree cs0 cs o ∧ Fp p W W' ∧ Below B W W'
set_option maxHeartbeats 4000000 in
theorem data40 (hD : DecS) (s : ByteArray) (p o t B st : Nat) (l : Int) (tx : ByteArray) (cs0 : Array Value) (W : World) (r : RowAt W p cs0 t) (hA : At cs0 (tkL o s 0 0 0 0 false)) (h1 : cs0[o + 1]? = some (.string ⟨#[]⟩)) (h2 : cs0[o + 1 + 1]? = some (.string ⟨#[]⟩)) (hB : B ≤ p) (hT : TB B W) (hst : st ≤ s.size) (hs : s.size ≤ 1048576) :
    Calls Tryf.prog 40 #[.pointer (some ⟨p, o, none⟩), .agg #[.int .i32 ((st : Nat) : Int), .int .i32 l], .string tx] W (DatIs p o t B cs0 tx W) := by
  have hp := r.lt
  have hb0 : Below W.heap.size W ((W.alloc (.cells #[.int .i32 ((st : Nat) : Int), .int .i32 l] 54)).alloc (.cells #[.nilIface, .pointer none, .string ⟨#[]⟩, .bool false] 32)) := ((Below.refl _ _).alloc (Nat.le_refl _) _).alloc (by simp) _
  have r1 := r.below hb0 hp
  have rr : RowAt ((W.alloc (.cells #[.int .i32 ((st : Nat) : Int), .int .i32 l] 54)).alloc (.cells #[.nilIface, .pointer none, .string ⟨#[]⟩, .bool false] 32)) (W.heap.size + 1) #[.nilIface, .pointer none, .string ⟨#[]⟩, .bool false] 32 := RowAt.newAt (by simp)
  have HH := Lib.hid (And.intro r1 (And.intro hA (And.intro hb0 (And.intro rr (hT.below (hb0.mono (by omega)))))))
  have HC := Lib.hid (And.intro h1 h2)
  clear r r1 hA hb0 rr hT h1 h2
  go_enter Tryf.func40, Tryf.ntmps40
  go_wp2_with fail
  refine (loc50 hD s p o t B st l cs0 _ HH.out.1 HH.out.2.1 HC.out.1 HC.out.2 hB HH.out.2.2.2.2 hst hs).mono ?_
  rintro e w1 ⟨g, cs, rfl, r2, ag2, hF2, hB2⟩
  have rr1 := hF2 _ _ _ (by omega) HH.out.2.2.2.1
  have c0 := rr1.cellv (j := 0) (v := .nilIface) rfl
  have c1 := rr1.cellv (j := 1) (v := .pointer none) rfl
  have c2 := rr1.cellv (j := 2) (v := .string ⟨#[]⟩) rfl
  have c3 := rr1.cellv (j := 3) (v := .bool false) rfl
  have H1 := Lib.hid (And.intro rr1 (And.intro r2 (And.intro ag2 (And.intro ((Fp.below HH.out.2.2.1).trans hF2) ((HH.out.2.2.1.mono (by omega)).trans hB2)))))
  clear rr1 r2 ag2 hF2 hB2 c0 c1 c2 c3
  go_wp2_with (refine wpList_store_row rfl 32 _ _ rfl (W.heap.size + 1) #[.nilIface, .pointer (some ⟨g, 0, none⟩), .string tx, .bool false] (by rfl) (by rfl) 32 _ H1.out.1 (by kernel_rfl) (by kernel_rfl) (by kernel_rfl) ?_)
  have hr9 := row_setRow (ds := #[.nilIface, .pointer (some ⟨g, 0, none⟩), .string tx, .bool false]) H1.out.1
  have hne : p ≠ W.heap.size + 1 := by omega
  exact bodyPost_ret (v := .agg #[.nilIface, .pointer (some ⟨g, 0, none⟩), .string tx, .bool false]) (results_cell Tryf.results40 (by rfl) (run_loadVar_mid _ (W.heap.size + 1) 0 32 _ _ (range_of hr9) Tryf.underlying32 rfl (by kernel_rfl))) rfl ⟨g, cs, rfl, (setRow_other _ (W.heap.size + 1) p _ hne).trans H1.out.2.1, H1.out.2.2.1, fun g' cs' t' hg' r' => (setRow_other _ (W.heap.size + 1) g' _ (by have := r'.lt; omega)).trans (H1.out.2.2.2.1 g' cs' t' hg' r'), below_setRow H1.out.2.2.2.2 (by omega) _⟩

end Go.Proofs.YtidicogmfpfibabFmt
