import Derived.Test.YtkncfhhiookgdabGreatFmtKit
import Derived.Test.YtkncfhhiookgdabGreatFmtIuC
namespace Go.Proofs.YtkncfhhiookgdabGreatFmt
open Go.ChangeShapes Go.WideShapes Go.ChangeAt Go.RowKit
set_option linter.unusedVariables false
set_option maxRecDepth 100000
set_option maxHeartbeats 2000000

open Go.MuLone Go.Extern
noncomputable def rg32 : List Oper := rgAt Tryz.f32 3
def Bs32 (k mu he ms : Nat) (p o : Nat) (s l : Int) (tx : ByteArray) (na : Option Addr) (nl nc : Nat) (b : Nat) : List Value := [.agg (logV k mu he ms), .int .u8 32, .int .u8 4, .pointer (some ⟨p, o, none⟩), .agg #[.int .i32 s, .int .i32 l], .string tx, .slice na nl nc, .pointer (some ⟨b, 0, none⟩), undef, undef, undef, .pointer (some ⟨b + 1, 0, none⟩), undef, undef, .int .u8 4, .bool true, .tuple #[.int .u8 4, .bool true], .pointer (some ⟨b, 5, none⟩), .map none, .int .u8 32, .int .u8 4, .tuple #[.int .u8 4, .bool true], .int .u8 4, .bool true, .bool true, undef, undef, undef, undef, undef, undef, undef, undef, undef, undef, undef]
def Bx32 (k mu he ms : Nat) (p o : Nat) (s l : Int) (tx : ByteArray) (na : Option Addr) (nl nc : Nat) (b : Nat) : List Value := [.agg (logV k mu he ms), .int .u8 32, .int .u8 4, .pointer (some ⟨p, o, none⟩), .agg #[.int .i32 s, .int .i32 l], .string tx, .slice na nl nc, .pointer (some ⟨b, 0, none⟩), undef, undef, undef, .pointer (some ⟨b + 1, 0, none⟩), undef, undef, .int .u8 4, .bool true, .tuple #[.int .u8 4, .bool true], .pointer (some ⟨b, 5, none⟩), .map none, .int .u8 32, .int .u8 4, .tuple #[.int .u8 4, .bool true], .int .u8 4, .bool true, .bool true, undef, undef, undef, undef, undef, undef, undef, undef, .slice na nl nc, undef, undef]
def Vs32 (k mu he ms : Nat) (p o : Nat) (s l : Int) (tx : ByteArray) (na : Option Addr) (nl nc : Nat) (b : Nat) : List Value := [.pointer (some ⟨b, 0, none⟩), .func (Fn.func 18) #[] #[.pointer (some ⟨k, 0, none⟩), .pointer (some ⟨mu, 0, none⟩), .pointer (some ⟨he, 0, none⟩), .pointer (some ⟨ms, 0, none⟩)], .int .u8 32, .int .u8 4, .pointer (some ⟨p, o, none⟩), .agg #[.int .i32 s, .int .i32 l], .string tx, .agg #[.nilIface, .pointer none, .string tx, .bool false], .slice na nl nc, .agg #[.slice na nl nc, .string ⟨#[]⟩, .nilIface, .pointer none, .string tx, .bool false, .int .u8 4, .int .u8 32], .tuple #[]]
theorem ok32 (j : Nat) (h : j < 11) : stepOk rg32.toArray 11 j = true := by
  have h0 : ((List.range 11).all fun i => stepOk rg32.toArray 11 (0 + i)) = true := by kernel_rfl
  exact chunk h0 j (by omega) (by omega)
theorem sel32 : Region.noSelect rg32.toArray = true := by kernel_rfl
set_option maxHeartbeats 4000000 in
theorem addid32 (B k mu he ms : Nat) (v : Value) (n : Nat) (xs : List Value) (fl : Bool) (W : World) (H : LG B k mu he ms 0 v n xs fl W) (p o : Nat) (s l : Int) (tx : ByteArray) (na : Option Addr) (nl nc : Nat) (hn : n ≤ 100000) (h : W.cell? ⟨p, o + 9, none⟩ = some (.bool false)) (hp : p < W.heap.size) :
    Calls Tryz.prog 32 #[.agg (logV k mu he ms), .int .u8 32, .int .u8 4, .pointer (some ⟨p, o, none⟩), .agg #[.int .i32 s, .int .i32 l], .string tx, .slice na nl nc] W (Added B k mu he ms 0 n (xs ++ msgV 4 32 (.slice na nl nc) (.pointer none) tx) fl W) := by
  have HH := Lib.hid H
  have HC := Lib.hid h
  clear H h
  go_enter Tryz.func32, Tryz.ntmps32
  go_upto_region 1 with (fail)
  have hb0 : Below W.heap.size W ((W.alloc (.cells (logV k mu he ms) 40)).alloc (.cells #[.int .i32 s, .int .i32 l] 61)) := ((Below.refl _ _).alloc (Nat.le_refl _) _).alloc (by simp) _
  have r4 : RowAt ((W.alloc (.cells (logV k mu he ms) 40)).alloc (.cells #[.int .i32 s, .int .i32 l] 61)) W.heap.size (logV k mu he ms) 40 := (RowAt.newAt rfl).alloc _
  have r6 : RowAt ((W.alloc (.cells (logV k mu he ms) 40)).alloc (.cells #[.int .i32 s, .int .i32 l] 61)) (W.heap.size + 1) #[.int .i32 s, .int .i32 l] 61 := RowAt.newAt (by simp)
  obtain ⟨W1, hW1⟩ : ∃ W1, W1 = (W.alloc (.cells (logV k mu he ms) 40)).alloc (.cells #[.int .i32 s, .int .i32 l] 61) := ⟨_, rfl⟩
  rw [← hW1] at hb0 r4 r6 ⊢
  clear hW1
  have c5 := r4.cellv (j := 5) (v := .map none) rfl
  have l5 := r4.lt
  have HB := Lib.hid hb0
  have H4 := Lib.hid r4
  have H6 := Lib.hid r6
  clear hb0 r4 r6
  go_wp2_with fail
  refine (allow44 _).mono ?_
  rintro e2 w2 ⟨rfl, q, rfl⟩
  go_upto_region 3 with (fail)
  have bq : Below W.heap.size W (W1.drewN q) := below_drewN HB.out q
  obtain ⟨W2, hW2⟩ : ∃ W2, W2 = W1.drewN q := ⟨_, rfl⟩
  have HB2 : Hid (Below W.heap.size W W2) := Lib.hid (by rw [hW2]; exact bq)
  have G4 : Hid (RowAt W2 W.heap.size (logV k mu he ms) 40) := Lib.hid (by rw [hW2]; exact H4.out.drewN q)
  have G6 : Hid (RowAt W2 (W.heap.size + 1) #[.int .i32 s, .int .i32 l] 61) := Lib.hid (by rw [hW2]; exact H6.out.drewN q)
  rw [← hW2]
  clear hW2 bq HB H4 H6 c5 l5
  refine reg_conv rg32 (by kernel_rfl) ?_
  refine held_begin (N := 11) (S := fun W' => RowAt W' W.heap.size (logV k mu he ms) 40 ∧ RowAt W' (W.heap.size + 1) #[.int .i32 s, .int .i32 l] 61) (a' := frAct (Bs32 k mu he ms p o s l tx na nl nc W.heap.size) (Vs32 k mu he ms p o s l tx na nl nc W.heap.size) 25 0) (by kernel_rfl) (by kernel_rfl) (by kernel_rfl) ⟨G4.out, G6.out⟩ (fun hS => ?_)
  refine held_to (a' := frAct (Bs32 k mu he ms p o s l tx na nl nc W.heap.size) (Vs32 k mu he ms p o s l tx na nl nc W.heap.size) 25 1) 0 11 (d := some 25) (v := .pointer (some ⟨W.heap.size, 0, none⟩)) (by kernel_rfl) (by kernel_rfl) sel32 (ok32 _ (by omega)) (fun _ _ _ h => h) (by kernel_rfl) (fun _ _ => by kernel_rfl) hS (by kernel_rfl) ?_
  refine held_to (a' := frAct (Bs32 k mu he ms p o s l tx na nl nc W.heap.size) (Vs32 k mu he ms p o s l tx na nl nc W.heap.size) 25 2) 1 11 (d := some 26) (v := .func (Fn.func 18) #[] #[.pointer (some ⟨k, 0, none⟩), .pointer (some ⟨mu, 0, none⟩), .pointer (some ⟨he, 0, none⟩), .pointer (some ⟨ms, 0, none⟩)]) (by kernel_rfl) (by kernel_rfl) sel32 (ok32 _ (by omega)) (fun _ _ _ h => h) (by kernel_rfl) (fun _ hS => run_ld (T := 33) (x := .tmp 25) (by kernel_rfl) (by kernel_rfl) (run_ld1 ⟨W.heap.size, 0, none⟩ 33 _ _ (by kernel_rfl) (hS.1.cellv (j := 0) (by rfl)))) hS (by kernel_rfl) ?_
  refine held_to (a' := frAct (Bs32 k mu he ms p o s l tx na nl nc W.heap.size) (Vs32 k mu he ms p o s l tx na nl nc W.heap.size) 25 3) 2 11 (d := some 27) (v := .int .u8 32) (by kernel_rfl) (by kernel_rfl) sel32 (ok32 _ (by omega)) (fun _ _ _ h => h) (by kernel_rfl) (fun _ _ => by kernel_rfl) hS (by kernel_rfl) ?_
  refine held_to (a' := frAct (Bs32 k mu he ms p o s l tx na nl nc W.heap.size) (Vs32 k mu he ms p o s l tx na nl nc W.heap.size) 25 4) 3 11 (d := some 28) (v := .int .u8 4) (by kernel_rfl) (by kernel_rfl) sel32 (ok32 _ (by omega)) (fun _ _ _ h => h) (by kernel_rfl) (fun _ _ => by kernel_rfl) hS (by kernel_rfl) ?_
  refine held_to (a' := frAct (Bs32 k mu he ms p o s l tx na nl nc W.heap.size) (Vs32 k mu he ms p o s l tx na nl nc W.heap.size) 25 5) 4 11 (d := some 29) (v := .pointer (some ⟨p, o, none⟩)) (by kernel_rfl) (by kernel_rfl) sel32 (ok32 _ (by omega)) (fun _ _ _ h => h) (by kernel_rfl) (fun _ _ => by kernel_rfl) hS (by kernel_rfl) ?_
  refine held_to (a' := frAct (Bs32 k mu he ms p o s l tx na nl nc W.heap.size) (Vs32 k mu he ms p o s l tx na nl nc W.heap.size) 25 6) 5 11 (d := some 30) (v := .agg #[.int .i32 s, .int .i32 l]) (by kernel_rfl) (by kernel_rfl) sel32 (ok32 _ (by omega)) (fun _ _ _ h => h) (by kernel_rfl) (fun _ hS => run_ld (T := 61) (x := .tmp 11) (by kernel_rfl) (by kernel_rfl) (run_loadVar_mid _ (W.heap.size + 1) 0 61 _ _ (range_of hS.2) Tryz.underlying61 rfl (by kernel_rfl))) hS (by kernel_rfl) ?_
  refine held_to (a' := frAct (Bs32 k mu he ms p o s l tx na nl nc W.heap.size) (Vs32 k mu he ms p o s l tx na nl nc W.heap.size) 25 7) 6 11 (d := some 31) (v := .string tx) (by kernel_rfl) (by kernel_rfl) sel32 (ok32 _ (by omega)) (fun _ _ _ h => h) (by kernel_rfl) (fun _ _ => by kernel_rfl) hS (by kernel_rfl) ?_
  refine held_at (a' := frAct (Bx32 k mu he ms p o s l tx na nl nc W.heap.size) (Vs32 k mu he ms p o s l tx na nl nc W.heap.size) 25 7) 8 (d := some 33) (v := .slice na nl nc) (by kernel_rfl) (by kernel_rfl) sel32 (by kernel_rfl) (by kernel_rfl) (fun _ _ _ h => h) (by kernel_rfl) (fun _ _ => by kernel_rfl) hS (by kernel_rfl) ?_
  refine held_ready1 7 (by kernel_rfl) (by kernel_rfl) (by kernel_rfl) ?_
  refine wp_enter (d := some 32) (f := 43) (args := #[.pointer (some ⟨p, o, none⟩), .agg #[.int .i32 s, .int .i32 l], .string tx]) (by kernel_rfl) (by kernel_rfl) ?_
  have hw : Below W.heap.size W W2.drew := below_drewN HB2.out 1
  refine (data43 p o s l tx _ ((hw.cell (p := ⟨p, o + 9, none⟩) hp).trans HC.out) (Nat.lt_of_lt_of_le hp hw.size)).mono ?_
  rintro e2 w2 ⟨rfl, hb2⟩
  have hS2 := (And.intro (hS.1.below hb2 hS.1.lt) (hS.2.below hb2 hS.2.lt))
  refine ⟨_, rfl, hS2, ?_⟩
  rw [show (((Lk 11 7).setIfInBounds 8 true).setIfInBounds 7 true) = Lk 11 9 from by kernel_rfl, show (frAct (Bx32 k mu he ms p o s l tx na nl nc W.heap.size) (Vs32 k mu he ms p o s l tx na nl nc W.heap.size) 25 7).put (some 32) (.agg #[.nilIface, .pointer none, .string tx, .bool false]) = frAct (Bs32 k mu he ms p o s l tx na nl nc W.heap.size) (Vs32 k mu he ms p o s l tx na nl nc W.heap.size) 25 9 from by kernel_rfl]
  refine held_to (a' := frAct (Bs32 k mu he ms p o s l tx na nl nc W.heap.size) (Vs32 k mu he ms p o s l tx na nl nc W.heap.size) 25 10) 9 11 (d := some 34) (v := .agg #[.slice na nl nc, .string ⟨#[]⟩, .nilIface, .pointer none, .string tx, .bool false, .int .u8 4, .int .u8 32]) (by kernel_rfl) (by kernel_rfl) sel32 (ok32 _ (by omega)) (fun _ _ _ h => h) (by kernel_rfl) (fun _ _ => by kernel_rfl) hS2 (by kernel_rfl) ?_
  refine held_ready1 10 (by kernel_rfl) (by kernel_rfl) (by kernel_rfl) ?_
  refine wp_enter (d := some 35) (f := 18) (args := #[.agg #[.slice na nl nc, .string ⟨#[]⟩, .nilIface, .pointer none, .string tx, .bool false, .int .u8 4, .int .u8 32], .pointer (some ⟨k, 0, none⟩), .pointer (some ⟨mu, 0, none⟩), .pointer (some ⟨he, 0, none⟩), .pointer (some ⟨ms, 0, none⟩)]) (by kernel_rfl) (by kernel_rfl) ?_
  have hw2 : Below W.heap.size W w2 := hw.trans (hb2.mono hw.size)
  refine (add18d B k mu he ms 0 v n xs fl w2 (HH.out.later hw2) rfl na nl nc none tx hn).mono ?_
  rintro e3 w3 ⟨rfl, v3, H3, k3, b3⟩
  refine ⟨_, rfl, ⟨k3 _ _ _ (by decide) (by decide) (by decide) (by decide) hS2.1, k3 _ _ _ (by decide) (by decide) (by decide) (by decide) hS2.2⟩, ?_⟩
  rw [Lk_succ]
  refine ⟨by kernel_rfl, ?_⟩
  have hE : Added B k mu he ms 0 n (xs ++ msgV 4 32 (.slice na nl nc) (.pointer none) tx) fl W (.returned (.tuple #[])) w3 := ⟨rfl, v3, H3, (Kp.below hw2).trans k3, (hw2.mono HH.out.hB).trans b3⟩
  have HE := Lib.hid hE
  clear hE H3 k3 b3 hw2 hw hb2 hS hS2
  go_wp2_with fail
  exact bodyPost_ret (v := .tuple #[]) (results_none (by kernel_rfl) _ _ _) (by kernel_rfl) HE.out

end Go.Proofs.YtkncfhhiookgdabGreatFmt
