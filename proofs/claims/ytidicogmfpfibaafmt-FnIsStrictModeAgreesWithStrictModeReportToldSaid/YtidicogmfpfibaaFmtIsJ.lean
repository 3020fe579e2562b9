import Derived.Test.YtidicogmfpfibaaFmtKit
import Derived.Test.YtidicogmfpfibaaFmtIsI
import Derived.Test.YtidicogmfpfibaaFmtLaE
namespace Go.Proofs.YtidicogmfpfibaaFmt
open Go.ChangeShapes Go.WideShapes Go.ChangeAt Go.RowKit
set_option linter.unusedVariables false
set_option maxRecDepth 100000
set_option maxHeartbeats 2000000

open Go.MuLone
noncomputable def rg16_1 : List Oper := rgAt Tryf.f16 1
def Bs16 (k mu he ms : Nat) (p o : Nat) (s l : Int) (tx : ByteArray) (nt : Value) (b : Nat) : List Value := [.agg (logV k mu he ms), .pointer (some ⟨p, o, none⟩), .agg #[.int .i32 s, .int .i32 l], .string tx, nt, .pointer (some ⟨b, 0, none⟩), undef, .pointer (some ⟨b + 1, 0, none⟩), undef, undef, undef, undef, undef, undef, undef, undef, undef, undef, undef]
def Bx16 (k mu he ms : Nat) (p o : Nat) (s l : Int) (tx : ByteArray) (nt : Value) (b : Nat) : List Value := [.agg (logV k mu he ms), .pointer (some ⟨p, o, none⟩), .agg #[.int .i32 s, .int .i32 l], .string tx, nt, .pointer (some ⟨b, 0, none⟩), undef, .pointer (some ⟨b + 1, 0, none⟩), undef, undef, undef, undef, undef, undef, undef, undef, nt, undef, undef]
def Vs16 (k mu he ms : Nat) (p o : Nat) (s l : Int) (tx : ByteArray) (nt : Value) (la : Option Addr) (b : Nat) : List Value := [.pointer (some ⟨b, 0, none⟩), .func (Fn.func 19) #[] #[.pointer (some ⟨k, 0, none⟩), .pointer (some ⟨mu, 0, none⟩), .pointer (some ⟨he, 0, none⟩), .pointer (some ⟨ms, 0, none⟩)], .pointer (some ⟨p, o, none⟩), .agg #[.int .i32 s, .int .i32 l], .string tx, .agg #[.nilIface, .pointer la, .string tx, .bool false], nt, .agg #[nt, .string ⟨#[]⟩, .nilIface, .pointer la, .string tx, .bool false, .int .u8 0, .int .u8 0], .tuple #[]]
theorem ok16 (j : Nat) (h : j < 9) : stepOk rg16_1.toArray 9 j = true := by
  have h0 : ((List.range 9).all fun i => stepOk rg16_1.toArray 9 (0 + i)) = true := by kernel_rfl
  exact chunk h0 j (by omega) (by omega)
theorem sel16 : Region.noSelect rg16_1.toArray = true := by kernel_rfl
theorem PS.kp {p k mu he ms sc ts : Nat} {fm kd : Int} {W W' : World} (h : PS p k mu he ms sc ts fm kd W) (hk : Kp W W') : PS p k mu he ms sc ts fm kd W' := by
  obtain ⟨cs, b, r, h1, h2, h3, ⟨ss, rs, h4⟩, tt, rt, h5⟩ := h
  exact ⟨cs, b, hk _ _ _ (by decide) (by decide) (by decide) (by decide) r, h1, h2, h3, ⟨ss, hk _ _ _ (by decide) (by decide) (by decide) (by decide) rs, h4⟩, tt, hk _ _ _ (by decide) (by decide) (by decide) (by decide) rt, h5⟩
def AddedL (p sc ts : Nat) (fm kd : Int) (B k mu he ms n : Nat) (xs : List Value) (nt : Value) (tx : ByteArray) (W : World) (e : Ending) (W' : World) : Prop := e = .returned (.tuple #[]) ∧ ∃ v g, LG B k mu he ms 0 v (n + 1) (xs ++ msgV nt (.pointer (some ⟨g, 0, none⟩)) tx) W' ∧ Below B W W' ∧ PS p k mu he ms sc ts fm kd W' ∧ ∀ g cs, RowAt W g cs 41 → RowAt W' g cs 41
set_option maxHeartbeats 4000000 in
theorem adderr16 (B k mu he ms : Nat) (v : Value) (n : Nat) (xs : List Value) (W : World) (H : LG B k mu he ms 0 v n xs W) (p sc ts : Nat) (fm kd : Int) (hB : B ≤ p) (hP : PS p k mu he ms sc ts fm kd W) (tx : ByteArray) (nt : Value) (na : Option Addr) (nl nc : Nat) (hnt : nt = .slice na nl nc) (hn : n ≤ 100000) :
    Calls Tryf.prog 16 #[.agg (logV k mu he ms), .pointer (some ⟨p, 67, none⟩), .agg #[.int .i32 0, .int .i32 0], .string tx, nt] W (AddedL p sc ts fm kd B k mu he ms n xs nt tx W) := by
  have hBW : B ≤ W.heap.size := H.hB
  have HH := Lib.hid H
  have HC := Lib.hid hP
  clear H hP
  go_enter Tryf.func16, Tryf.ntmps16
  go_upto_region 1 with (fail)
  have hb0 : Below W.heap.size W ((W.alloc (.cells (logV k mu he ms) 49)).alloc (.cells #[.int .i32 0, .int .i32 0] 41)) := ((Below.refl _ _).alloc (Nat.le_refl _) _).alloc (by simp) _
  have r4 : RowAt ((W.alloc (.cells (logV k mu he ms) 49)).alloc (.cells #[.int .i32 0, .int .i32 0] 41)) W.heap.size (logV k mu he ms) 49 := (RowAt.newAt rfl).alloc _
  have r6 : RowAt ((W.alloc (.cells (logV k mu he ms) 49)).alloc (.cells #[.int .i32 0, .int .i32 0] 41)) (W.heap.size + 1) #[.int .i32 0, .int .i32 0] 41 := RowAt.newAt (by simp)
  obtain ⟨W1, hW1⟩ : ∃ W1, W1 = (W.alloc (.cells (logV k mu he ms) 49)).alloc (.cells #[.int .i32 0, .int .i32 0] 41) := ⟨_, rfl⟩
  rw [← hW1] at hb0 r4 r6 ⊢
  clear hW1
  have HB := Lib.hid hb0
  have H4 := Lib.hid r4
  have H6 := Lib.hid r6
  have HP1 := Lib.hid (HC.out.later hb0)
  clear hb0 r4 r6
  refine reg_conv rg16_1 (by kernel_rfl) ?_
  refine held_begin (N := 9) (S := fun W' => (RowAt W' W.heap.size (logV k mu he ms) 49 ∧ RowAt W' (W.heap.size + 1) #[.int .i32 0, .int .i32 0] 41) ∧ PS p k mu he ms sc ts fm kd W') (a' := frAct (Bs16 k mu he ms p 67 0 0 tx nt W.heap.size) (Vs16 k mu he ms p 67 0 0 tx nt none W.heap.size) 10 0) (by kernel_rfl) (by kernel_rfl) (by kernel_rfl) ⟨⟨H4.out, H6.out⟩, HP1.out⟩ (fun hS => ?_)
  refine held_to (a' := frAct (Bs16 k mu he ms p 67 0 0 tx nt W.heap.size) (Vs16 k mu he ms p 67 0 0 tx nt none W.heap.size) 10 1) 0 9 (d := some 10) (v := .pointer (some ⟨W.heap.size, 0, none⟩)) (by kernel_rfl) (by kernel_rfl) sel16 (ok16 _ (by omega)) (fun _ _ _ h => h) (by kernel_rfl) (fun _ _ => by kernel_rfl) hS (by kernel_rfl) ?_
  refine held_to (a' := frAct (Bs16 k mu he ms p 67 0 0 tx nt W.heap.size) (Vs16 k mu he ms p 67 0 0 tx nt none W.heap.size) 10 2) 1 9 (d := some 11) (v := .func (Fn.func 19) #[] #[.pointer (some ⟨k, 0, none⟩), .pointer (some ⟨mu, 0, none⟩), .pointer (some ⟨he, 0, none⟩), .pointer (some ⟨ms, 0, none⟩)]) (by kernel_rfl) (by kernel_rfl) sel16 (ok16 _ (by omega)) (fun _ _ _ h => h) (by kernel_rfl) (fun _ hS => run_ld (T := 42) (x := .tmp 10) (by kernel_rfl) (by kernel_rfl) (run_ld1 ⟨W.heap.size, 0, none⟩ 42 _ _ (by kernel_rfl) (hS.1.1.cellv (j := 0) (by rfl)))) hS (by kernel_rfl) ?_
  refine held_to (a' := frAct (Bs16 k mu he ms p 67 0 0 tx nt W.heap.size) (Vs16 k mu he ms p 67 0 0 tx nt none W.heap.size) 10 3) 2 9 (d := some 12) (v := .pointer (some ⟨p, 67, none⟩)) (by kernel_rfl) (by kernel_rfl) sel16 (ok16 _ (by omega)) (fun _ _ _ h => h) (by kernel_rfl) (fun _ _ => by kernel_rfl) hS (by kernel_rfl) ?_
  refine held_to (a' := frAct (Bs16 k mu he ms p 67 0 0 tx nt W.heap.size) (Vs16 k mu he ms p 67 0 0 tx nt none W.heap.size) 10 4) 3 9 (d := some 13) (v := .agg #[.int .i32 0, .int .i32 0]) (by kernel_rfl) (by kernel_rfl) sel16 (ok16 _ (by omega)) (fun _ _ _ h => h) (by kernel_rfl) (fun _ hS => run_ld (T := 41) (x := .tmp 7) (by kernel_rfl) (by kernel_rfl) (run_loadVar_mid _ (W.heap.size + 1) 0 41 _ _ (range_of hS.1.2) Tryf.underlying41 rfl (by kernel_rfl))) hS (by kernel_rfl) ?_
  refine held_to (a' := frAct (Bs16 k mu he ms p 67 0 0 tx nt W.heap.size) (Vs16 k mu he ms p 67 0 0 tx nt none W.heap.size) 10 5) 4 9 (d := some 14) (v := .string tx) (by kernel_rfl) (by kernel_rfl) sel16 (ok16 _ (by omega)) (fun _ _ _ h => h) (by kernel_rfl) (fun _ _ => by kernel_rfl) hS (by kernel_rfl) ?_
  refine held_at (a' := frAct (Bx16 k mu he ms p 67 0 0 tx nt W.heap.size) (Vs16 k mu he ms p 67 0 0 tx nt none W.heap.size) 10 5) 6 (d := some 16) (v := nt) (by kernel_rfl) (by kernel_rfl) sel16 (by kernel_rfl) (by kernel_rfl) (fun _ _ _ h => h) (by kernel_rfl) (fun _ _ => by kernel_rfl) hS (by kernel_rfl) ?_
  refine held_ready1 5 (by kernel_rfl) (by kernel_rfl) (by kernel_rfl) ?_
  refine wp_enter (d := some 15) (f := 26) (args := #[.pointer (some ⟨p, 67, none⟩), .agg #[.int .i32 0, .int .i32 0], .string tx]) (by kernel_rfl) (by kernel_rfl) ?_
  have hw : Below W.heap.size W W1.drew := below_drewN HB.out 1
  obtain ⟨cs, b, r, q1, q2, q3, q4, q5⟩ := hS.2
  have hpl := r.lt
  have hne1 : W.heap.size ≠ p := fun e => (hS.1.1.diff r (by decide)) e
  have hne2 : W.heap.size + 1 ≠ p := fun e => (hS.1.2.diff r (by decide)) e
  refine (data26_0 p 67 166 B b tx cs _ r q1 q2 hB).mono ?_
  rintro e2 w2 ⟨⟨g, rfl⟩, r2, f2, hb2⟩
  have hP2 : PS p k mu he ms sc ts fm kd w2 := PS.tracked r2 f2 q1 b q2 q3 r q4 q5
  have hl2 : LG B k mu he ms 0 v n xs w2 := (HH.out.later hw).fp r f2 hb2.size
  have hS2 := And.intro (And.intro (f2 _ _ _ hne1 hS.1.1) (f2 _ _ _ hne2 hS.1.2)) hP2
  refine ⟨_, rfl, hS2, ?_⟩
  rw [show (((Lk 9 5).setIfInBounds 6 true).setIfInBounds 5 true) = Lk 9 7 from by kernel_rfl, show (frAct (Bx16 k mu he ms p 67 0 0 tx nt W.heap.size) (Vs16 k mu he ms p 67 0 0 tx nt none W.heap.size) 10 5).put (some 15) (.agg #[.nilIface, .pointer (some ⟨g, 0, none⟩), .string tx, .bool false]) = frAct (Bs16 k mu he ms p 67 0 0 tx nt W.heap.size) (Vs16 k mu he ms p 67 0 0 tx nt (some ⟨g, 0, none⟩) W.heap.size) 10 7 from by kernel_rfl]
  subst hnt
  refine held_to (a' := frAct (Bs16 k mu he ms p 67 0 0 tx (.slice na nl nc) W.heap.size) (Vs16 k mu he ms p 67 0 0 tx (.slice na nl nc) (some ⟨g, 0, none⟩) W.heap.size) 10 8) 7 9 (d := some 17) (v := .agg #[.slice na nl nc, .string ⟨#[]⟩, .nilIface, .pointer (some ⟨g, 0, none⟩), .string tx, .bool false, .int .u8 0, .int .u8 0]) (by kernel_rfl) (by kernel_rfl) sel16 (ok16 _ (by omega)) (fun _ _ _ h => h) (by kernel_rfl) (fun _ _ => by kernel_rfl) hS2 (by kernel_rfl) ?_
  refine held_ready1 8 (by kernel_rfl) (by kernel_rfl) (by kernel_rfl) ?_
  refine wp_enter (d := some 18) (f := 19) (args := #[.agg #[.slice na nl nc, .string ⟨#[]⟩, .nilIface, .pointer (some ⟨g, 0, none⟩), .string tx, .bool false, .int .u8 0, .int .u8 0], .pointer (some ⟨k, 0, none⟩), .pointer (some ⟨mu, 0, none⟩), .pointer (some ⟨he, 0, none⟩), .pointer (some ⟨ms, 0, none⟩)]) (by kernel_rfl) (by kernel_rfl) ?_
  have hw2 : Below B W w2 := (hw.mono hBW).trans hb2
  refine (add9 B k mu he ms 0 v n xs w2 hl2 rfl na nl nc (some ⟨g, 0, none⟩) tx hn).mono ?_
  rintro e3 w3 ⟨rfl, v3, H3, k3, b3⟩
  refine ⟨_, rfl, ⟨⟨k3 _ _ _ (by decide) (by decide) (by decide) (by decide) hS2.1.1, k3 _ _ _ (by decide) (by decide) (by decide) (by decide) hS2.1.2⟩, hP2.kp k3⟩, ?_⟩
  rw [Lk_succ]
  refine ⟨by kernel_rfl, ?_⟩
  have hE : AddedL p sc ts fm kd B k mu he ms n xs (.slice na nl nc) tx W (.returned (.tuple #[])) w3 := ⟨rfl, v3, g, H3, hw2.trans b3, hP2.kp k3, fun g' cs' r' => k3 _ _ _ (by decide) (by decide) (by decide) (by decide) (f2 _ _ _ ((r'.below hw r'.lt).diff r (by decide)) (r'.below hw r'.lt))⟩
  have HE := Lib.hid hE
  clear hE H3 k3 b3 hw2 hw hb2 hS hS2 hP2 hl2 r r2 f2 q1 q2 q3 q4 q5
  go_wp2_with fail
  exact bodyPost_ret (v := .tuple #[]) (results_none (by kernel_rfl) _ _ _) (by kernel_rfl) HE.out


/-- Done over one message: nothing is compared. -/
theorem ins1 (g c : Nat) (W : World) : Calls Tryf.prog 41 #[.iface 188 (.slice (some ⟨g, 0, none⟩) 1 c), .int .i64 0, .int .i64 1] W fun e w' => e = .returned (.tuple #[]) ∧ W = w' := by
  go_enter Tryf.func41, Tryf.ntmps41
  go_wp2_with fail
  refine wp_loop_once ?_
  go_wp2_with fail
  go_end0
  exact ⟨rfl, rfl⟩
theorem stb1 (g c : Nat) (W : World) : Calls Tryf.prog 31 #[.iface 188 (.slice (some ⟨g, 0, none⟩) 1 c), .int .i64 1] W fun e w' => e = .returned (.tuple #[]) ∧ W = w' := by
  go_enter Tryf.func31, Tryf.ntmps31
  go_wp2_with fail
  refine wp_loop_once ?_
  go_wp2_with fail
  refine (ins1 g c W).mono ?_
  rintro e w1 ⟨rfl, rfl⟩
  go_wp2_with fail
  refine wp_loop_once ?_
  go_wp2_with fail
  go_end0
  exact ⟨rfl, rfl⟩
theorem srt1 (g c : Nat) (W : World) : Calls Tryf.prog 25 #[.iface 188 (.slice (some ⟨g, 0, none⟩) 1 c)] W fun e w' => e = .returned (.tuple #[]) ∧ W = w' := by
  go_enter Tryf.func25, Tryf.ntmps25
  go_wp2_with fail
  refine (len82 _ 1 c W).mono ?_
  rintro e w1 ⟨rfl, rfl⟩
  go_wp2_with fail
  refine (stb1 g c W).mono ?_
  rintro e w1 ⟨rfl, rfl⟩
  go_wp2_with fail
  go_end0
  exact ⟨rfl, rfl⟩
theorem done1 (B k mu he ms : Nat) (kd : Int) (v : Value) (xs : List Value) (W : World) (H : LG B k mu he ms kd v 1 xs W) :
    Calls Tryf.prog 24 #[.pointer (some ⟨mu, 0, none⟩), .pointer (some ⟨ms, 0, none⟩)] W (DoneIs B k mu he ms kd v 1 xs W) := by
  obtain ⟨g, cap, rfl⟩ := own_succ H.own
  exact done14_aux B k mu he ms kd _ cap 1 xs W H fun W1 _ => (srt1 g cap W1).mono fun e w' ⟨h1, h2⟩ => ⟨h1, h2 ▸ Below.refl _ _⟩
theorem done0 (B k mu he ms : Nat) (kd : Int) (W : World) (H : LG B k mu he ms kd (.slice none 0 0) 0 [] W) :
    Calls Tryf.prog 24 #[.pointer (some ⟨mu, 0, none⟩), .pointer (some ⟨ms, 0, none⟩)] W (DoneIs B k mu he ms kd (.slice none 0 0) 0 [] W) :=
  done14_aux B k mu he ms kd none 0 0 [] W H fun W1 _ => (stab15_nil W1).mono fun e w' ⟨h1, h2⟩ => ⟨h1, h2 ▸ Below.refl _ _⟩

end Go.Proofs.YtidicogmfpfibaaFmt
