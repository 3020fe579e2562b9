import Derived.Test.YtidicogmfpfibacFmtKit
import Derived.Test.YtidicogmfpfibacFmtLnF
namespace Go.Proofs.YtidicogmfpfibacFmt
open Go.ChangeShapes Go.WideShapes Go.ChangeAt Go.RowKit
set_option linter.unusedVariables false
set_option maxRecDepth 100000
set_option maxHeartbeats 2000000

open Go.MuLone
noncomputable def rg17_1 : List Oper := rgAt Tryf.f17 1
def Bs17 (k mu he ms : Nat) (p o : Nat) (s l : Int) (tx : ByteArray) (nt : Value) (b : Nat) : List Value := [.agg (logV k mu he ms), .pointer (some ⟨p, o, none⟩), .agg #[.int .i32 s, .int .i32 l], .string tx, nt, .pointer (some ⟨b, 0, none⟩), undef, .pointer (some ⟨b + 1, 0, none⟩), undef, undef, undef, undef, undef, undef, undef, undef, undef, undef, undef]
def Bx17 (k mu he ms : Nat) (p o : Nat) (s l : Int) (tx : ByteArray) (nt : Value) (b : Nat) : List Value := [.agg (logV k mu he ms), .pointer (some ⟨p, o, none⟩), .agg #[.int .i32 s, .int .i32 l], .string tx, nt, .pointer (some ⟨b, 0, none⟩), undef, .pointer (some ⟨b + 1, 0, none⟩), undef, undef, undef, undef, undef, undef, undef, undef, nt, undef, undef]
def Vs17 (k mu he ms : Nat) (p o : Nat) (s l : Int) (tx : ByteArray) (nt : Value) (b : Nat) : List Value := [.pointer (some ⟨b, 0, none⟩), .func (Fn.func 10) #[] #[.pointer (some ⟨k, 0, none⟩), .pointer (some ⟨mu, 0, none⟩), .pointer (some ⟨he, 0, none⟩), .pointer (some ⟨ms, 0, none⟩)], .pointer (some ⟨p, o, none⟩), .agg #[.int .i32 s, .int .i32 l], .string tx, .agg #[.nilIface, .pointer none, .string tx, .bool false], nt, .agg #[nt, .string ⟨#[]⟩, .nilIface, .pointer none, .string tx, .bool false, .int .u8 0, .int .u8 0], .tuple #[]]
theorem ok17 (j : Nat) (h : j < 9) : stepOk rg17_1.toArray 9 j = true := by
  have h0 : ((List.range 9).all fun i => stepOk rg17_1.toArray 9 (0 + i)) = true := by kernel_rfl
  exact chunk h0 j (by omega) (by omega)
theorem sel17 : Region.noSelect rg17_1.toArray = true := by kernel_rfl
set_option maxHeartbeats 4000000 in
theorem adderr17 (B k mu he ms : Nat) (v : Value) (n : Nat) (xs : List Value) (W : World) (H : LG B k mu he ms 0 v n xs W) (p o : Nat) (s l : Int) (tx : ByteArray) (nt : Value) (na : Option Addr) (nl nc : Nat) (hnt : nt = .slice na nl nc) (hn : n ≤ 100000) (h : W.cell? ⟨p, o + 9, none⟩ = some (.bool false)) (hp : p < W.heap.size) :
    Calls Tryf.prog 17 #[.agg (logV k mu he ms), .pointer (some ⟨p, o, none⟩), .agg #[.int .i32 s, .int .i32 l], .string tx, nt] W (Added B k mu he ms 0 n (xs ++ msgV nt (.pointer none) tx) W) := by
  have HH := Lib.hid H
  have HC := Lib.hid h
  clear H h
  go_enter Tryf.func17, Tryf.ntmps17
  go_upto_region 1 with (fail)
  have hb0 : Below W.heap.size W ((W.alloc (.cells (logV k mu he ms) 43)).alloc (.cells #[.int .i32 s, .int .i32 l] 64)) := ((Below.refl _ _).alloc (Nat.le_refl _) _).alloc (by simp) _
  have r4 : RowAt ((W.alloc (.cells (logV k mu he ms) 43)).alloc (.cells #[.int .i32 s, .int .i32 l] 64)) W.heap.size (logV k mu he ms) 43 := (RowAt.newAt rfl).alloc _
  have r6 : RowAt ((W.alloc (.cells (logV k mu he ms) 43)).alloc (.cells #[.int .i32 s, .int .i32 l] 64)) (W.heap.size + 1) #[.int .i32 s, .int .i32 l] 64 := RowAt.newAt (by simp)
  obtain ⟨W1, hW1⟩ : ∃ W1, W1 = (W.alloc (.cells (logV k mu he ms) 43)).alloc (.cells #[.int .i32 s, .int .i32 l] 64) := ⟨_, rfl⟩
  rw [← hW1] at hb0 r4 r6 ⊢
  clear hW1
  have HB := Lib.hid hb0
  have H4 := Lib.hid r4
  have H6 := Lib.hid r6
  clear hb0 r4 r6
  refine reg_conv rg17_1 (by kernel_rfl) ?_
  refine held_begin (N := 9) (S := fun W' => RowAt W' W.heap.size (logV k mu he ms) 43 ∧ RowAt W' (W.heap.size + 1) #[.int .i32 s, .int .i32 l] 64) (a' := frAct (Bs17 k mu he ms p o s l tx nt W.heap.size) (Vs17 k mu he ms p o s l tx nt W.heap.size) 10 0) (by kernel_rfl) (by kernel_rfl) (by kernel_rfl) ⟨H4.out, H6.out⟩ (fun hS => ?_)
  refine held_to (a' := frAct (Bs17 k mu he ms p o s l tx nt W.heap.size) (Vs17 k mu he ms p o s l tx nt W.heap.size) 10 1) 0 9 (d := some 10) (v := .pointer (some ⟨W.heap.size, 0, none⟩)) (by kernel_rfl) (by kernel_rfl) sel17 (ok17 _ (by omega)) (fun _ _ _ h => h) (by kernel_rfl) (fun _ _ => by kernel_rfl) hS (by kernel_rfl) ?_
  refine held_to (a' := frAct (Bs17 k mu he ms p o s l tx nt W.heap.size) (Vs17 k mu he ms p o s l tx nt W.heap.size) 10 2) 1 9 (d := some 11) (v := .func (Fn.func 10) #[] #[.pointer (some ⟨k, 0, none⟩), .pointer (some ⟨mu, 0, none⟩), .pointer (some ⟨he, 0, none⟩), .pointer (some ⟨ms, 0, none⟩)]) (by kernel_rfl) (by kernel_rfl) sel17 (ok17 _ (by omega)) (fun _ _ _ h => h) (by kernel_rfl) (fun _ hS => run_ld (T := 36) (x := .tmp 10) (by kernel_rfl) (by kernel_rfl) (run_ld1 ⟨W.heap.size, 0, none⟩ 36 _ _ (by kernel_rfl) (hS.1.cellv (j := 0) (by rfl)))) hS (by kernel_rfl) ?_
  refine held_to (a' := frAct (Bs17 k mu he ms p o s l tx nt W.heap.size) (Vs17 k mu he ms p o s l tx nt W.heap.size) 10 3) 2 9 (d := some 12) (v := .pointer (some ⟨p, o, none⟩)) (by kernel_rfl) (by kernel_rfl) sel17 (ok17 _ (by omega)) (fun _ _ _ h => h) (by kernel_rfl) (fun _ _ => by kernel_rfl) hS (by kernel_rfl) ?_
  refine held_to (a' := frAct (Bs17 k mu he ms p o s l tx nt W.heap.size) (Vs17 k mu he ms p o s l tx nt W.heap.size) 10 4) 3 9 (d := some 13) (v := .agg #[.int .i32 s, .int .i32 l]) (by kernel_rfl) (by kernel_rfl) sel17 (ok17 _ (by omega)) (fun _ _ _ h => h) (by kernel_rfl) (fun _ hS => run_ld (T := 64) (x := .tmp 7) (by kernel_rfl) (by kernel_rfl) (run_loadVar_mid _ (W.heap.size + 1) 0 64 _ _ (range_of hS.2) Tryf.underlying64 rfl (by kernel_rfl))) hS (by kernel_rfl) ?_
  refine held_to (a' := frAct (Bs17 k mu he ms p o s l tx nt W.heap.size) (Vs17 k mu he ms p o s l tx nt W.heap.size) 10 5) 4 9 (d := some 14) (v := .string tx) (by kernel_rfl) (by kernel_rfl) sel17 (ok17 _ (by omega)) (fun _ _ _ h => h) (by kernel_rfl) (fun _ _ => by kernel_rfl) hS (by kernel_rfl) ?_
  refine held_at (a' := frAct (Bx17 k mu he ms p o s l tx nt W.heap.size) (Vs17 k mu he ms p o s l tx nt W.heap.size) 10 5) 6 (d := some 16) (v := nt) (by kernel_rfl) (by kernel_rfl) sel17 (by kernel_rfl) (by kernel_rfl) (fun _ _ _ h => h) (by kernel_rfl) (fun _ _ => by kernel_rfl) hS (by kernel_rfl) ?_
  refine held_ready1 5 (by kernel_rfl) (by kernel_rfl) (by kernel_rfl) ?_
  refine wp_enter (d := some 15) (f := 23) (args := #[.pointer (some ⟨p, o, none⟩), .agg #[.int .i32 s, .int .i32 l], .string tx]) (by kernel_rfl) (by kernel_rfl) ?_
  have hw : Below W.heap.size W W1.drew := below_drewN HB.out 1
  refine (data20 p o s l tx _ ((hw.cell (p := ⟨p, o + 9, none⟩) hp).trans HC.out) (Nat.lt_of_lt_of_le hp hw.size)).mono ?_
  rintro e2 w2 ⟨rfl, hb2⟩
  have hS2 := (And.intro (hS.1.below hb2 hS.1.lt) (hS.2.below hb2 hS.2.lt))
  refine ⟨_, rfl, hS2, ?_⟩
  rw [show (((Lk 9 5).setIfInBounds 6 true).setIfInBounds 5 true) = Lk 9 7 from by kernel_rfl, show (frAct (Bx17 k mu he ms p o s l tx nt W.heap.size) (Vs17 k mu he ms p o s l tx nt W.heap.size) 10 5).put (some 15) (.agg #[.nilIface, .pointer none, .string tx, .bool false]) = frAct (Bs17 k mu he ms p o s l tx nt W.heap.size) (Vs17 k mu he ms p o s l tx nt W.heap.size) 10 7 from by kernel_rfl]
  subst hnt
  refine held_to (a' := frAct (Bs17 k mu he ms p o s l tx (.slice na nl nc) W.heap.size) (Vs17 k mu he ms p o s l tx (.slice na nl nc) W.heap.size) 10 8) 7 9 (d := some 17) (v := .agg #[.slice na nl nc, .string ⟨#[]⟩, .nilIface, .pointer none, .string tx, .bool false, .int .u8 0, .int .u8 0]) (by kernel_rfl) (by kernel_rfl) sel17 (ok17 _ (by omega)) (fun _ _ _ h => h) (by kernel_rfl) (fun _ _ => by kernel_rfl) hS2 (by kernel_rfl) ?_
  refine held_ready1 8 (by kernel_rfl) (by kernel_rfl) (by kernel_rfl) ?_
  refine wp_enter (d := some 18) (f := 10) (args := #[.agg #[.slice na nl nc, .string ⟨#[]⟩, .nilIface, .pointer none, .string tx, .bool false, .int .u8 0, .int .u8 0], .pointer (some ⟨k, 0, none⟩), .pointer (some ⟨mu, 0, none⟩), .pointer (some ⟨he, 0, none⟩), .pointer (some ⟨ms, 0, none⟩)]) (by kernel_rfl) (by kernel_rfl) ?_
  have hw2 : Below W.heap.size W w2 := hw.trans (hb2.mono hw.size)
  refine (add9 B k mu he ms 0 v n xs w2 (HH.out.later hw2) rfl na nl nc none tx hn).mono ?_
  rintro e3 w3 ⟨rfl, v3, H3, k3, b3⟩
  refine ⟨_, rfl, ⟨k3 _ _ _ (by decide) (by decide) (by decide) (by decide) hS2.1, k3 _ _ _ (by decide) (by decide) (by decide) (by decide) hS2.2⟩, ?_⟩
  rw [Lk_succ]
  refine ⟨by kernel_rfl, ?_⟩
  have hE : Added B k mu he ms 0 n (xs ++ msgV (.slice na nl nc) (.pointer none) tx) W (.returned (.tuple #[])) w3 := ⟨rfl, v3, H3, (Kp.below hw2).trans k3, (hw2.mono HH.out.hB).trans b3⟩
  have HE := Lib.hid hE
  clear hE H3 k3 b3 hw2 hw hb2 hS hS2
  go_wp2_with fail
  exact bodyPost_ret (v := .tuple #[]) (results_none (by kernel_rfl) _ _ _) (by kernel_rfl) HE.out

end Go.Proofs.YtidicogmfpfibacFmt
