import Derived.Test.YtidicogmfpfibabFmtKit
import Derived.Test.YtidicogmfpfibabFmtMaG
namespace Go.Proofs.YtidicogmfpfibabFmt
open Go.ChangeShapes Go.WideShapes Go.ChangeAt Go.RowKit
set_option linter.unusedVariables false
set_option maxRecDepth 100000
set_option maxHeartbeats 2000000

open Go.MuLone
noncomputable def rg24 : List Oper := rgAt Tryf.f24 1
theorem ok24_0 : ((List.range 7).all fun i => stepOk rg24.toArray 8 (0 + i)) = true := by kernel_rfl
theorem ok24 (j : Nat) (h : j < 7) : stepOk rg24.toArray 8 j = true := by
  exact chunk ok24_0 j (by omega) (by omega)
theorem sel24 : Region.noSelect rg24.toArray = true := by kernel_rfl
/-- A parser whose tracker may have moved. -/
def PL (p k mu he ms : Nat) (un : Int) (W : World) : Prop := ∃ cs, RowAt W p cs 163 ∧ At cs (parL k mu he ms un)
theorem PL.kp {p k mu he ms : Nat} {un : Int} {W W' : World} (h : PL p k mu he ms un W) (hk : Kp W W') : PL p k mu he ms un W' := by
  obtain ⟨cs, r, h1⟩ := h
  exact ⟨cs, hk _ _ _ (by decide) (by decide) (by decide) (by decide) r, h1⟩
theorem par_agree {cs0 cs : Array Value} {k mu he ms : Nat} {un : Int} (h : At cs0 (parL k mu he ms un)) (ha : Agree cs0 cs 67) : At cs (parL k mu he ms un) := by
  intro q hq
  have h1 := h q hq
  simp only [parL, List.mem_cons, List.not_mem_nil, or_false] at hq
  rcases hq with rfl | rfl | rfl | rfl | rfl | rfl | rfl | rfl | rfl <;> exact (ha _ (by omega)).trans h1
def AddedL (p : Nat) (un : Int) (B k mu he ms n : Nat) (xs : List Value) (tx : ByteArray) (W : World) (e : Ending) (W' : World) : Prop := e = .returned (.tuple #[]) ∧ ∃ v g, LG B k mu he ms 1 v (n + 1) (xs ++ msgV (.slice none 0 0) (.pointer (some ⟨g, 0, none⟩)) tx) W' ∧ Below B W W' ∧ PL p k mu he ms un W' ∧ ∀ g cs, RowAt W g cs 54 → RowAt W' g cs 54
def Bs24 (k mu he ms p st b : Nat) (l : Int) (tx : ByteArray) : List Value := [.agg (logV k mu he ms), .pointer (some ⟨p, 67, none⟩), .agg #[.int .i32 ((st : Nat) : Int), .int .i32 l], .string tx, .pointer (some ⟨b, 0, none⟩), undef, .pointer (some ⟨b + 1, 0, none⟩), undef, undef, undef, undef, undef, undef, undef, undef, undef]
def Vs24 (k mu he ms p st b : Nat) (l : Int) (tx : ByteArray) (la : Option Addr) : List Value := [.pointer (some ⟨b, 0, none⟩), .func (Fn.func 11) #[] #[.pointer (some ⟨k, 0, none⟩), .pointer (some ⟨mu, 0, none⟩), .pointer (some ⟨he, 0, none⟩), .pointer (some ⟨ms, 0, none⟩)], .pointer (some ⟨p, 67, none⟩), .agg #[.int .i32 ((st : Nat) : Int), .int .i32 l], .string tx, .agg #[.nilIface, .pointer la, .string tx, .bool false], .agg #[.slice none 0 0, .string ⟨#[]⟩, .nilIface, .pointer la, .string tx, .bool false, .int .u8 0, .int .u8 0], .tuple #[]]
set_option maxHeartbeats 4000000 in
theorem adderr24 (hD : DecS) (s : ByteArray) (B k mu he ms : Nat) (v : Value) (n : Nat) (xs : List Value) (W : World) (H : LG B k mu he ms 1 v n xs W) (p st : Nat) (l : Int) (un : Int) (hB : B ≤ p) (hT : TB B W) (hP : PM p k mu he ms un s W) (hst : st ≤ s.size) (hs : s.size ≤ 1048576) (tx : ByteArray) (hn : n ≤ 100000) :
    Calls Tryf.prog 24 #[.agg (logV k mu he ms), .pointer (some ⟨p, 67, none⟩), .agg #[.int .i32 ((st : Nat) : Int), .int .i32 l], .string tx] W (AddedL p un B k mu he ms n xs tx W) := by
  have hBW : B ≤ W.heap.size := H.hB
  have HH := Lib.hid (And.intro H (And.intro hP hT))
  clear H hP hT
  go_enter Tryf.func24, Tryf.ntmps24
  go_upto_region 1 with (fail)
  have hb0 : Below W.heap.size W ((W.alloc (.cells (logV k mu he ms) 81)).alloc (.cells #[.int .i32 ((st : Nat) : Int), .int .i32 l] 54)) := ((Below.refl _ _).alloc (Nat.le_refl _) _).alloc (by simp) _
  have r4 : RowAt ((W.alloc (.cells (logV k mu he ms) 81)).alloc (.cells #[.int .i32 ((st : Nat) : Int), .int .i32 l] 54)) W.heap.size (logV k mu he ms) 81 := (RowAt.newAt rfl).alloc _
  have r6 : RowAt ((W.alloc (.cells (logV k mu he ms) 81)).alloc (.cells #[.int .i32 ((st : Nat) : Int), .int .i32 l] 54)) (W.heap.size + 1) #[.int .i32 ((st : Nat) : Int), .int .i32 l] 54 := RowAt.newAt (by simp)
  obtain ⟨W1, hW1⟩ : ∃ W1, W1 = (W.alloc (.cells (logV k mu he ms) 81)).alloc (.cells #[.int .i32 ((st : Nat) : Int), .int .i32 l] 54) := ⟨_, rfl⟩
  rw [← hW1] at hb0 r4 r6 ⊢
  clear hW1
  obtain ⟨b, hb⟩ : ∃ b, b = W.heap.size := ⟨_, rfl⟩
  have HBZ := Lib.hid hb
  rw [← hb] at r4 r6 ⊢
  clear hb
  have H4 := Lib.hid (And.intro hb0 (And.intro r4 r6))
  clear hb0 r4 r6
  refine reg_conv rg24 (by kernel_rfl) ?_
  refine held_begin (N := 8) (S := (fun W => RowAt W b (logV k mu he ms) 81 ∧ RowAt W (b + 1) #[.int .i32 ((st : Nat) : Int), .int .i32 l] 54)) (a' := frAct (Bs24 k mu he ms p st b l tx) (Vs24 k mu he ms p st b l tx none) 8 0) (by kernel_rfl) (by kernel_rfl) (by kernel_rfl) (show (fun W => RowAt W b (logV k mu he ms) 81 ∧ RowAt W (b + 1) #[.int .i32 ((st : Nat) : Int), .int .i32 l] 54) W1.drew from ⟨H4.out.2.1, H4.out.2.2⟩) (fun hS => ?_)
  refine held_to (a' := frAct (Bs24 k mu he ms p st b l tx) (Vs24 k mu he ms p st b l tx none) 8 1) 0 8 (d := some 8) (v := .pointer (some ⟨b, 0, none⟩)) (by kernel_rfl) (by kernel_rfl) sel24 (ok24 0 (by omega)) (fun _ _ _ h => h) (by kernel_rfl) (fun _ _ => by kernel_rfl) hS (by kernel_rfl) ?_
  refine held_to (a' := frAct (Bs24 k mu he ms p st b l tx) (Vs24 k mu he ms p st b l tx none) 8 2) 1 8 (d := some 9) (v := .func (Fn.func 11) #[] #[.pointer (some ⟨k, 0, none⟩), .pointer (some ⟨mu, 0, none⟩), .pointer (some ⟨he, 0, none⟩), .pointer (some ⟨ms, 0, none⟩)]) (by kernel_rfl) (by kernel_rfl) sel24 (ok24 1 (by omega)) (fun _ _ _ h => h) (by kernel_rfl) (fun _ hS => run_ld (T := 74) (x := .tmp 8) (by kernel_rfl) (by kernel_rfl) (run_ld1 ⟨b, 0, none⟩ 74 _ _ (by kernel_rfl) (hS.1.cellv (j := 0) (by rfl)))) hS (by kernel_rfl) ?_
  refine held_to (a' := frAct (Bs24 k mu he ms p st b l tx) (Vs24 k mu he ms p st b l tx none) 8 3) 2 8 (d := some 10) (v := .pointer (some ⟨p, 67, none⟩)) (by kernel_rfl) (by kernel_rfl) sel24 (ok24 2 (by omega)) (fun _ _ _ h => h) (by kernel_rfl) (fun _ _ => by kernel_rfl) hS (by kernel_rfl) ?_
  refine held_to (a' := frAct (Bs24 k mu he ms p st b l tx) (Vs24 k mu he ms p st b l tx none) 8 4) 3 8 (d := some 11) (v := .agg #[.int .i32 ((st : Nat) : Int), .int .i32 l]) (by kernel_rfl) (by kernel_rfl) sel24 (ok24 3 (by omega)) (fun _ _ _ h => h) (by kernel_rfl) (fun _ hS => run_ld (T := 54) (x := .tmp 6) (by kernel_rfl) (by kernel_rfl) (run_loadVar_mid _ (b + 1) 0 54 _ _ (range_of hS.2) Tryf.underlying54 rfl (by kernel_rfl))) hS (by kernel_rfl) ?_
  refine held_to (a' := frAct (Bs24 k mu he ms p st b l tx) (Vs24 k mu he ms p st b l tx none) 8 5) 4 8 (d := some 12) (v := .string tx) (by kernel_rfl) (by kernel_rfl) sel24 (ok24 4 (by omega)) (fun _ _ _ h => h) (by kernel_rfl) (fun _ _ => by kernel_rfl) hS (by kernel_rfl) ?_
  refine held_ready1 5 (by kernel_rfl) (by kernel_rfl) (by kernel_rfl) ?_
  refine wp_enter (d := some 13) (f := 40) (args := #[.pointer (some ⟨p, 67, none⟩), .agg #[.int .i32 ((st : Nat) : Int), .int .i32 l], .string tx]) (by kernel_rfl) (by kernel_rfl) ?_
  have hw : Below W.heap.size W W1.drew := below_drewN H4.out.1 1
  obtain ⟨cs, r, q1, q2, q3, q4⟩ := (HH.out.2.1).later hw
  have hne1 : b ≠ p := fun e => (hS.1.diff r (by decide)) e
  have hne2 : b + 1 ≠ p := fun e => (hS.2.diff r (by decide)) e
  refine (data40 hD s p 67 163 B st l tx cs _ r q1 q2 q3 hB ((HH.out.2.2).below (hw.mono hBW)) hst hs).mono ?_
  rintro e2 w2 ⟨g, cs2, rfl, r2, ag2, f2, hb2⟩
  have hL2 : PL p k mu he ms un w2 := ⟨cs2, r2, par_agree q4 ag2⟩
  have hl2 : LG B k mu he ms 1 v n xs w2 := ((HH.out.1).later hw).fp r f2 hb2.size
  have hS2 := And.intro (f2 _ _ _ hne1 hS.1) (f2 _ _ _ hne2 hS.2)
  have hw2 : Below B W w2 := (hw.mono hBW).trans hb2
  refine ⟨_, rfl, hS2, ?_⟩
  rw [Lk_succ, show (frAct (Bs24 k mu he ms p st b l tx) (Vs24 k mu he ms p st b l tx none) 8 5).put (some 13) (.agg #[.nilIface, .pointer (some ⟨g, 0, none⟩), .string tx, .bool false]) = frAct (Bs24 k mu he ms p st b l tx) (Vs24 k mu he ms p st b l tx (some ⟨g, 0, none⟩)) 8 6 from by kernel_rfl]
  refine held_to (a' := frAct (Bs24 k mu he ms p st b l tx) (Vs24 k mu he ms p st b l tx (some ⟨g, 0, none⟩)) 8 7) 6 8 (d := some 14) (v := .agg #[.slice none 0 0, .string ⟨#[]⟩, .nilIface, .pointer (some ⟨g, 0, none⟩), .string tx, .bool false, .int .u8 0, .int .u8 0]) (by kernel_rfl) (by kernel_rfl) sel24 (ok24 6 (by omega)) (fun _ _ _ h => h) (by kernel_rfl) (fun _ _ => by kernel_rfl) hS2 (by kernel_rfl) ?_
  refine held_ready1 7 (by kernel_rfl) (by kernel_rfl) (by kernel_rfl) ?_
  refine wp_enter (d := some 15) (f := 11) (args := #[.agg #[.slice none 0 0, .string ⟨#[]⟩, .nilIface, .pointer (some ⟨g, 0, none⟩), .string tx, .bool false, .int .u8 0, .int .u8 0], .pointer (some ⟨k, 0, none⟩), .pointer (some ⟨mu, 0, none⟩), .pointer (some ⟨he, 0, none⟩), .pointer (some ⟨ms, 0, none⟩)]) (by kernel_rfl) (by kernel_rfl) ?_
  refine (add9 B k mu he ms v n xs w2 hl2 none 0 0 (some ⟨g, 0, none⟩) tx hn).mono ?_
  rintro e3 w3 ⟨rfl, v3, H3, k3, b3⟩
  refine ⟨_, rfl, ⟨k3 _ _ _ (by decide) (by decide) (by decide) (by decide) hS2.1, k3 _ _ _ (by decide) (by decide) (by decide) (by decide) hS2.2⟩, ?_⟩
  rw [Lk_succ]
  refine ⟨by kernel_rfl, ?_⟩
  have hE : AddedL p un B k mu he ms n xs tx W (.returned (.tuple #[])) w3 := ⟨rfl, v3, g, H3, hw2.trans b3, hL2.kp k3, fun g' cs' r' => k3 _ _ _ (by decide) (by decide) (by decide) (by decide) (f2 _ _ _ ((r'.below hw r'.lt).diff r (by decide)) (r'.below hw r'.lt))⟩
  have HE := Lib.hid hE
  clear hE H3 k3 b3 hw2 hw hb2 hS hS2 hL2 hl2 r r2 f2 q1 q2 q3 q4 ag2
  go_wp2_with fail
  exact bodyPost_ret (v := .tuple #[]) (results_none (by kernel_rfl) _ _ _) (by kernel_rfl) HE.out
/-- Done over one message: nothing is compared. -/
theorem ins1 (g c : Nat) (W : World) : Calls Tryf.prog 38 #[.iface 168 (.slice (some ⟨g, 0, none⟩) 1 c), .int .i64 0, .int .i64 1] W fun e w' => e = .returned (.tuple #[]) ∧ W = w' := by
  go_enter Tryf.func38, Tryf.ntmps38
  go_wp2_with fail
  refine wp_loop_once ?_
  go_wp2_with fail
  go_end0
  exact ⟨rfl, rfl⟩
theorem stb1 (g c : Nat) (W : World) : Calls Tryf.prog 22 #[.iface 168 (.slice (some ⟨g, 0, none⟩) 1 c), .int .i64 1] W fun e w' => e = .returned (.tuple #[]) ∧ W = w' := by
  go_enter Tryf.func22, Tryf.ntmps22
  go_wp2_with fail
  refine wp_loop_once ?_
  go_wp2_with fail
  refine (ins1 g c W).mono ?_
  rintro e w1 ⟨rfl, rfl⟩
  go_wp2_with fail
  refine wp_loop_once ?_
  go_wp2_with fail
  go_end0
  exact ⟨rfl, rfl⟩
theorem srt1 (g c : Nat) (W : World) : Calls Tryf.prog 17 #[.iface 168 (.slice (some ⟨g, 0, none⟩) 1 c)] W fun e w' => e = .returned (.tuple #[]) ∧ W = w' := by
  go_enter Tryf.func17, Tryf.ntmps17
  go_wp2_with fail
  refine (len82 _ 1 c W).mono ?_
  rintro e w1 ⟨rfl, rfl⟩
  go_wp2_with fail
  refine (stb1 g c W).mono ?_
  rintro e w1 ⟨rfl, rfl⟩
  go_wp2_with fail
  go_end0
  exact ⟨rfl, rfl⟩
theorem done1 (B k mu he ms : Nat) (kd : Int) (v : Value) (xs : List Value) (W : World) (H : LG B k mu he ms kd v 1 xs W) :
    Calls Tryf.prog 16 #[.pointer (some ⟨mu, 0, none⟩), .pointer (some ⟨ms, 0, none⟩)] W (DoneIs B k mu he ms kd v 1 xs W) := by
  obtain ⟨g, cap, rfl⟩ := own_succ H.own
  exact done14_aux B k mu he ms kd _ cap 1 xs W H fun W1 _ => (srt1 g cap W1).mono fun e w' ⟨h1, h2⟩ => ⟨h1, h2 ▸ Below.refl _ _⟩
theorem done0 (B k mu he ms : Nat) (kd : Int) (W : World) (H : LG B k mu he ms kd (.slice none 0 0) 0 [] W) :
    Calls Tryf.prog 16 #[.pointer (some ⟨mu, 0, none⟩), .pointer (some ⟨ms, 0, none⟩)] W (DoneIs B k mu he ms kd (.slice none 0 0) 0 [] W) :=
  done14_aux B k mu he ms kd none 0 0 [] W H fun W1 _ => (stab15_nil W1).mono fun e w' ⟨h1, h2⟩ => ⟨h1, h2 ▸ Below.refl _ _⟩

theorem has18 (a b : Int) (W : World) : Calls Tryf.prog 18 #[.int .u64 a, .int .u64 b] W fun e W' => ∃ r, e = .returned (.bool r) ∧ W = W' := by
  go_enter Tryf.func18, Tryf.ntmps18
  go_wp2
  go_ret
  exact ⟨_, rfl, rfl⟩
theorem pretty27 (W : World) : Calls Tryf.prog 27 #[.string ⟨#[]⟩, .int .u64 0] W fun e W' => ∃ x, e = .returned (.string x) ∧ W = W' := by
  go_enter Tryf.func27, Tryf.ntmps27
  go_wp2
  go_ret
  exact ⟨_, rfl, rfl⟩
theorem zz4 (un : Int) (s : ByteArray) (st l : Int) (b : Bool) (W : World) : Calls Tryf.prog 4 #[.int .u64 un, .string s, .int .i32 st, .int .i32 l, .bool b] W fun e W' => ∃ r, e = .returned (.bool r) ∧ W = W' := by
  go_enter Tryf.func4, Tryf.ntmps4
  go_wp2 <;> (go_ret; first | exact ⟨_, rfl, rfl⟩ | exact rfl)

end Go.Proofs.YtidicogmfpfibabFmt
