import Derived.Test.YtidicogmfpfibabFmtKit
import Derived.Test.YtidicogmfpfibabFmtMaE
namespace Go.Proofs.YtidicogmfpfibabFmt
open Go.ChangeShapes Go.WideShapes Go.ChangeAt Go.RowKit
set_option linter.unusedVariables false
set_option maxRecDepth 100000
set_option maxHeartbeats 2000000

open Go.MuLone
/-- What a row of cells is behind a list stored from o on. -/
def putL (cs : Array Value) : Nat → List Value → Array Value
  | _, [] => cs
  | o, v :: r => putL (cs.setIfInBounds o v) (o + 1) r
theorem RowAt.setCells {p : Nat} {t : TypeId} : ∀ (vs : List Value) {w : World} {cs : Array Value} (o : Nat), RowAt w p cs t → RowAt (w.setCells p o vs) p (putL cs o vs) t
  | [], _, _, _, h => h
  | v :: r, _, _, o, h => RowAt.setCells r (o + 1) (h.set o v)
theorem RowAt.setCells_other {p c : Nat} {t : TypeId} {cs : Array Value} (hc : p ≠ c) : ∀ (vs : List Value) {w : World} (o : Nat), RowAt w p cs t → RowAt (w.setCells c o vs) p cs t
  | [], _, _, h => h
  | v :: r, _, o, h => RowAt.setCells_other hc r (o + 1) (h.set_other hc o v)
theorem below_setCells {B p : Nat} (hp : B ≤ p) : ∀ (vs : List Value) {w w' : World} (o : Nat), Below B w w' → Below B w (w'.setCells p o vs)
  | [], _, _, _, h => h
  | v :: r, _, _, o, h => below_setCells hp r (o + 1) (h.setCell hp v)
theorem setCells_size {p : Nat} : ∀ (vs : List Value) (w : World) (o : Nat), (w.setCells p o vs).heap.size = w.heap.size
  | [], _, _ => rfl
  | v :: r, w, o => (setCells_size r _ (o + 1)).trans (by simp)
theorem there_row {w : World} {p o n : Nat} {cs : Array Value} {t : TypeId} (r : RowAt w p cs t) (h : o + n ≤ cs.size) : w.there p o n := fun j hj => by
  refine ⟨?_, r.frozen _⟩
  rw [r.cell, Array.getElem?_eq_getElem (by omega)]
  rfl
theorem putL_size : ∀ (vs : List Value) (cs : Array Value) (o : Nat), (putL cs o vs).size = cs.size
  | [], _, _ => rfl
  | v :: r, cs, o => (putL_size r _ (o + 1)).trans (by simp)
/-- The value of a tracker over the text s. -/
def trkV (s : ByteArray) : Array Value := #[.string s, .string ⟨#[]⟩, .string ⟨#[]⟩, .int .i32 0, .int .i32 0, .int .i32 0, .int .i32 0, .bool true, .bool false, .bool true]
noncomputable def rg8 : List Oper := rgAt Tryf.f8 3
theorem ok8_0 : ((List.range 9).all fun i => stepOk rg8.toArray 10 (0 + i)) = true := by kernel_rfl
theorem ok8 (j : Nat) (h : j < 9) : stepOk rg8.toArray 10 j = true := by
  exact chunk ok8_0 j (by omega) (by omega)
theorem sel8 : Region.noSelect rg8.toArray = true := by kernel_rfl
def S8 (q o t b : Nat) (cs : Array Value) (W : World) : Prop := RowAt W q cs t ∧ ∃ ds, RowAt W b ds 92 ∧ ds.size = 10
theorem range2 {w : World} {q o t : Nat} {cs : Array Value} (r : RowAt w q cs t) (h0 : cs[o]? = some (.string ⟨#[]⟩)) (h1 : cs[o + 1]? = some (.string ⟨#[]⟩)) : w.rangeAt q o [.string ⟨#[]⟩, .string ⟨#[]⟩] := by
  intro j u hu
  match j, hu with
  | 0, hu => cases hu; exact r.cellv h0
  | 1, hu => cases hu; exact r.cellv h1
  | j + 2, hu => simp at hu
def Bs8 (q o b : Nat) : List Value := [.pointer (some ⟨q, o, none⟩), undef, .pointer (some ⟨b, 0, none⟩), .pointer (some ⟨q, o, none⟩), .bool false, undef, undef, undef, undef, undef, undef, undef, undef, undef, undef]
def Vs8 (q o : Nat) (s : ByteArray) : List Value := [.pointer (some ⟨q, o, none⟩), .pointer (some ⟨q, o, none⟩), .pointer (some ⟨q, o + 3, none⟩), .string s, .pointer (some ⟨q, o, none⟩), .pointer (some ⟨q, o, none⟩), .pointer (some ⟨q, o, none⟩), .agg #[.string ⟨#[]⟩, .string ⟨#[]⟩], .agg (trkV s)]
theorem rgn8 {Q : Exit → Act → World → Prop} (hQ : ∀ c a d v w, Q (.panic c) (a.put d v) w → Q (.panic c) a w) (q o t b : Nat) (s : ByteArray) (cs : Array Value) (h0 : cs[o]? = some (.string ⟨#[]⟩)) (h1 : cs[o + 1]? = some (.string ⟨#[]⟩)) (h3 : cs[o + 3]? = some (.string s)) (W : World) (hqb : q ≠ b) (hS : S8 q o t b cs W)
    (hend : ∀ W', RowAt W' b (trkV s) 92 → Below b W W' → Q .normal ⟨List.toArray (Value.pointer (some ⟨q, o, none⟩) :: undef :: Value.pointer (some ⟨b, 0, none⟩) :: Value.pointer (some ⟨q, o, none⟩) :: Value.bool false :: undef :: Value.pointer (some ⟨q, o, none⟩) :: Value.pointer (some ⟨q, o, none⟩) :: Value.pointer (some ⟨q, o + 3, none⟩) :: Value.string s :: Value.pointer (some ⟨q, o, none⟩) :: Value.pointer (some ⟨q, o, none⟩) :: Value.pointer (some ⟨q, o, none⟩) :: Value.agg #[.string ⟨#[]⟩, .string ⟨#[]⟩] :: Value.agg (trkV s) :: []), []⟩ W') : (Code.region 3 rg8.toArray true).wp Tryf.prog Q ⟨List.toArray (Value.pointer (some ⟨q, o, none⟩) :: undef :: Value.pointer (some ⟨b, 0, none⟩) :: Value.pointer (some ⟨q, o, none⟩) :: Value.bool false :: undef :: undef :: undef :: undef :: undef :: undef :: undef :: undef :: undef :: undef :: []), []⟩ W := by
  have hb : Below b W W.drew := below_drewN (Below.refl _ _) 1
  obtain ⟨W1, hW1⟩ : ∃ W1, W1 = W.drew := ⟨_, rfl⟩
  refine held_begin (N := 10) (S := S8 q o t b cs) (a' := frAct (Bs8 q o b) (Vs8 q o s) 6 0) (by kernel_rfl) (by kernel_rfl) (by kernel_rfl) (show S8 q o t b cs W.drew from hS) (fun hS => ?_)
  rw [← hW1] at hb hS ⊢
  refine held_to (a' := frAct (Bs8 q o b) (Vs8 q o s) 6 1) 0 10 (d := some 6) (v := .pointer (some ⟨q, o, none⟩)) (by kernel_rfl) (by kernel_rfl) sel8 (ok8 0 (by omega)) (fun c a w => hQ c a (some 6) _ w) (by kernel_rfl) (fun _ _ => by kernel_rfl) hS (by kernel_rfl) ?_
  refine held_to (a' := frAct (Bs8 q o b) (Vs8 q o s) 6 2) 1 10 (d := some 7) (v := .pointer (some ⟨q, o, none⟩)) (by kernel_rfl) (by kernel_rfl) sel8 (ok8 1 (by omega)) (fun c a w => hQ c a (some 7) _ w) (by kernel_rfl) (fun _ _ => by kernel_rfl) hS (by kernel_rfl) ?_
  refine held_to (a' := frAct (Bs8 q o b) (Vs8 q o s) 6 3) 2 10 (d := some 8) (v := .pointer (some ⟨q, o + 3, none⟩)) (by kernel_rfl) (by kernel_rfl) sel8 (ok8 2 (by omega)) (fun c a w => hQ c a (some 8) _ w) (by kernel_rfl) (fun _ _ => by kernel_rfl) hS (by kernel_rfl) ?_
  refine held_to (a' := frAct (Bs8 q o b) (Vs8 q o s) 6 4) 3 10 (d := some 9) (v := .string s) (by kernel_rfl) (by kernel_rfl) sel8 (ok8 3 (by omega)) (fun c a w => hQ c a (some 9) _ w) (by kernel_rfl) (fun _ hS => run_ld (T := 9) (x := .tmp 8) (by kernel_rfl) (by kernel_rfl) (run_ld1 ⟨q, o + 3, none⟩ 9 _ _ (by kernel_rfl) (hS.1.cellv h3))) hS (by kernel_rfl) ?_
  refine held_to (a' := frAct (Bs8 q o b) (Vs8 q o s) 6 5) 4 10 (d := some 10) (v := .pointer (some ⟨q, o, none⟩)) (by kernel_rfl) (by kernel_rfl) sel8 (ok8 4 (by omega)) (fun c a w => hQ c a (some 10) _ w) (by kernel_rfl) (fun _ _ => by kernel_rfl) hS (by kernel_rfl) ?_
  refine held_to (a' := frAct (Bs8 q o b) (Vs8 q o s) 6 6) 5 10 (d := some 11) (v := .pointer (some ⟨q, o, none⟩)) (by kernel_rfl) (by kernel_rfl) sel8 (ok8 5 (by omega)) (fun c a w => hQ c a (some 11) _ w) (by kernel_rfl) (fun _ _ => by kernel_rfl) hS (by kernel_rfl) ?_
  refine held_to (a' := frAct (Bs8 q o b) (Vs8 q o s) 6 7) 6 10 (d := some 12) (v := .pointer (some ⟨q, o, none⟩)) (by kernel_rfl) (by kernel_rfl) sel8 (ok8 6 (by omega)) (fun c a w => hQ c a (some 12) _ w) (by kernel_rfl) (fun _ _ => by kernel_rfl) hS (by kernel_rfl) ?_
  refine held_to (a' := frAct (Bs8 q o b) (Vs8 q o s) 6 8) 7 10 (d := some 13) (v := .agg #[.string ⟨#[]⟩, .string ⟨#[]⟩]) (by kernel_rfl) (by kernel_rfl) sel8 (ok8 7 (by omega)) (fun c a w => hQ c a (some 13) _ w) (by kernel_rfl) (fun _ hS => run_ld (T := 83) (x := .tmp 12) (by kernel_rfl) (by kernel_rfl) (run_loadVar_mid _ q o 83 [.string ⟨#[]⟩, .string ⟨#[]⟩] _ (range2 hS.1 h0 h1) Tryf.underlying83 rfl (by kernel_rfl))) hS (by kernel_rfl) ?_
  refine held_to (a' := frAct (Bs8 q o b) (Vs8 q o s) 6 9) 8 10 (d := some 14) (v := .agg (trkV s)) (by kernel_rfl) (by kernel_rfl) sel8 (ok8 8 (by omega)) (fun c a w => hQ c a (some 14) _ w) (by kernel_rfl) (fun _ _ => by kernel_rfl) hS (by kernel_rfl) ?_
  obtain ⟨ds, hS2, hds⟩ := hS.2
  refine held_ready1 9 (by kernel_rfl) (by kernel_rfl) (by kernel_rfl) ?_
  refine wp_store_row 92 (.tmp 2) (.tmp 14) (by kernel_rfl) b (trkV s) (by kernel_rfl) (by kernel_rfl) 92 _ hS2 (by kernel_rfl) hds (by kernel_rfl) ?_
  have hr := row_setRow (ds := trkV s) hS2
  refine ⟨⟨(setRow_other _ b q _ hqb).trans hS.1, _, hr, rfl⟩, ?_⟩
  rw [Lk_succ]
  exact held_done (by kernel_rfl) rfl (hend _ hr (below_setRow hb (Nat.le_refl _) _))
def MkIs (s : ByteArray) (W : World) (e : Ending) (W' : World) : Prop := e = .returned (.agg (trkV s)) ∧ Below W.heap.size W W'
set_option maxHeartbeats 4000000 in
theorem mk8 (q o t : Nat) (s : ByteArray) (cs : Array Value) (W : World) (r : RowAt W q cs t) (h0 : cs[o]? = some (.string ⟨#[]⟩)) (h1 : cs[o + 1]? = some (.string ⟨#[]⟩)) (h3 : cs[o + 3]? = some (.string s)) : Calls Tryf.prog 8 #[.pointer (some ⟨q, o, none⟩)] W (MkIs s W) := by
  have hp := r.lt
  have r1 := r.alloc (.cells #[.string ⟨#[]⟩, .string ⟨#[]⟩, .string ⟨#[]⟩, .int .i32 0, .int .i32 0, .int .i32 0, .int .i32 0, .bool false, .bool false, .bool false] 92)
  have rq : RowAt (W.alloc (.cells #[.string ⟨#[]⟩, .string ⟨#[]⟩, .string ⟨#[]⟩, .int .i32 0, .int .i32 0, .int .i32 0, .int .i32 0, .bool false, .bool false, .bool false] 92)) W.heap.size #[.string ⟨#[]⟩, .string ⟨#[]⟩, .string ⟨#[]⟩, .int .i32 0, .int .i32 0, .int .i32 0, .int .i32 0, .bool false, .bool false, .bool false] 92 := RowAt.new W _ _
  have hb : Below W.heap.size W (W.alloc (.cells #[.string ⟨#[]⟩, .string ⟨#[]⟩, .string ⟨#[]⟩, .int .i32 0, .int .i32 0, .int .i32 0, .int .i32 0, .bool false, .bool false, .bool false] 92)) := (Below.refl _ _).alloc (Nat.le_refl _) _
  have HH := Lib.hid (And.intro r1 (And.intro rq hb))
  have H0 := Lib.hid (And.intro h0 (And.intro h1 h3))
  clear r r1 rq hb h0 h1 h3
  go_enter Tryf.func8, Tryf.ntmps8
  go_upto_region 3 with (fail)
  refine reg_conv rg8 (by kernel_rfl) ?_
  refine rgn8 (fun c a d v w h => by cases d <;> exact h) q o t W.heap.size s cs H0.out.1 H0.out.2.1 H0.out.2.2 _ (by omega) ⟨HH.out.1, _, HH.out.2.1, rfl⟩ (fun W2 r2 b2 => ?_)
  have H2 := Lib.hid (And.intro r2 (HH.out.2.2.trans b2))
  clear r2 b2
  go_wp2_with fail
  exact bodyPost_ret (v := .agg (trkV s)) (results_cell Tryf.results8 (by rfl) (run_loadVar_mid _ W.heap.size 0 92 _ _ (range_of H2.out.1) Tryf.underlying92 rfl (by kernel_rfl))) rfl ⟨rfl, H2.out.2⟩

end Go.Proofs.YtidicogmfpfibabFmt
