import Derived.Test.YtailfkedgdlldacKit
import Derived.Test.YtailfkedgdlldacPrimIf
namespace Go.Proofs.Ytailfkedgdlldac.fnCanChangeStrictToLooseSymmetricThroughEnums
open Go.ChangeShapes Go.WideShapes Go.ChangeAt Go.RowKit
set_option linter.unusedVariables false
set_option maxRecDepth 100000
set_option maxHeartbeats 2000000

theorem two_cells {w : World} {R T : Nat} {x0 x1 : Value} (hr : RowAt w R #[x0, x1] T) (d l : Value) :
    ((w.setCell ⟨R, 0, none⟩ d).setCell ⟨R, 1, none⟩ l).cell? ⟨R, 0, none⟩ = some d ∧ ((w.setCell ⟨R, 0, none⟩ d).setCell ⟨R, 1, none⟩ l).cell? ⟨R, 1, none⟩ = some l :=
  ⟨((hr.set 0 d).set 1 l).cellv (by simp), ((hr.set 0 d).set 1 l).cellv (by simp)⟩

theorem build_leaf (y n : Int) (w : World) (hy : 0 ≤ y) : Calls Try.prog 7 #[.bool false, .int .u8 y, .int .u8 n] w fun e w' => ∃ v t, e = .returned v ∧ PExpr w' v t ∧ Below w.heap.size w w' := by
  go_enter Try.func7, Try.ntmps7
  go_wp2_with fail
  refine (leaf y _ hy).mono ?_
  rintro e w1 ⟨d, t, rfl, hd, hp, b1⟩
  have hst := fun (A : Addr) (W : World) (m : Mode) => run_store Try.prog W A d m hd
  have r1 : RowAt w1 w.heap.size #[.nilIface, .int .i32 0] 27 := (RowAt.new w _ _).below b1 (by go_size)
  have c0 := r1.cellv (j := 0) rfl
  have c1 := r1.cellv (j := 1) rfl
  have f0 := r1.frozen 0
  have f1 := r1.frozen 1
  obtain ⟨e0, e1⟩ := two_cells r1 d (.int .i32 0)
  have B1 : Below w.heap.size w w1 := Below.trans (by go_grown) (b1.mono (by go_size))
  have hsz := B1.size
  have HP := Lib.hid hp
  have HE0 := Lib.hid e0
  have HE1 := Lib.hid e1
  clear b1 hp r1 e0 e1
  go_wp2_with fail
  have e0 := HE0.out
  have e1 := HE1.out
  exact bodyPost_ret (v := .agg #[d, .int .i32 0]) (by simp [results, Try.results7, go_sem, e0, e1]) rfl ⟨_, t, rfl, ⟨d, rfl, hd, fun W _ => HP.out W⟩, by go_grown⟩

theorem build_if (y n : Int) (w : World) (hy : 0 ≤ y) (hn : 0 ≤ n) : Calls Try.prog 7 #[.bool true, .int .u8 y, .int .u8 n] w fun e w' => ∃ v t, e = .returned v ∧ PExpr w' v t ∧ Below w.heap.size w w' := by
  go_enter Try.func7, Try.ntmps7
  go_wp2_with fail
  refine (leaf 6 _ (by omega)).mono ?_
  rintro e w1 ⟨d0, t0, rfl, hd0, hp0, b1⟩
  have r1 : RowAt w1 w.heap.size #[.nilIface, .int .i32 0] 27 := (RowAt.new w _ _).below b1 (by go_size)
  have B1 : Below w.heap.size w w1 := Below.trans (by go_grown) (b1.mono (by go_size))
  have R1 := Lib.hid r1
  clear b1 r1 hp0
  go_wp2_with fail
  refine (leaf y _ hy).mono ?_
  rintro e w2 ⟨d1, t1, rfl, hd1, hp1, b2⟩
  have r2 := R1.out.below b2 R1.out.lt
  have B2 : Below w.heap.size w w2 := B1.trans (b2.mono B1.size)
  have R2 := Lib.hid r2
  have P1 := Lib.hid hp1
  clear b2 r2 R1 B1 hp1
  go_wp2_with fail
  refine (leaf n _ hn).mono ?_
  rintro e w3 ⟨d2, t2, rfl, hd2, hp2, b3⟩
  have r3 := R2.out.below b3 R2.out.lt
  have B3 : Below w.heap.size w w3 := B2.trans (b3.mono B2.size)
  have P2 := Lib.hid hp2
  have hsz := B3.size
  have hlt := r3.lt
  have c0 := r3.cellv (j := 0) rfl
  have c1 := r3.cellv (j := 1) rfl
  have f0 := r3.frozen 0
  have f1 := r3.frozen 1
  have R3 := Lib.hid r3
  clear b3 R2 B2 hp2 r3
  go_wp2_with fail
  have r4 := (((R3.out.set 0 (.iface 76 (.pointer (some ⟨w3.heap.size, 0, none⟩)))).set 1 (.int .i32 0)).alloc (.cells #[d0, .int .i32 0, d1, .int .i32 0, d2, .int .i32 0] 79))
  have e0 := r4.cellv (j := 0) (v := .iface 76 (.pointer (some ⟨w3.heap.size, 0, none⟩))) (by simp)
  have e1 := r4.cellv (j := 1) (v := .int .i32 0) (by simp)
  have r5 := RowAt.new ((w3.setCell ⟨w.heap.size, 0, none⟩ (.iface 76 (.pointer (some ⟨w3.heap.size, 0, none⟩)))).setCell ⟨w.heap.size, 1, none⟩ (.int .i32 0)) #[d0, .int .i32 0, d1, .int .i32 0, d2, .int .i32 0] 79
  simp only [World.size_setCell] at r5
  refine bodyPost_ret (v := .agg #[.iface 76 (.pointer (some ⟨w3.heap.size, 0, none⟩)), .int .i32 0]) (by simp [results, Try.results7, go_sem, e0, e1]) rfl ⟨_, merged t1 t2, rfl, ⟨_, rfl, rfl, fun W hW => ?_⟩, by go_grown⟩
  have r6 := r5.below hW r5.lt
  exact if_known w3.heap.size d1 d2 0 0 t1 t2 W (r6.cellv (j := 2) rfl) (r6.cellv (j := 3) rfl) (r6.cellv (j := 4) rfl) (r6.cellv (j := 5) rfl) (fun W' _ => P1.out W') (fun W' _ => P2.out W')

theorem build (c : Bool) (y n : Int) (w : World) (hy : 0 ≤ y) (hn : 0 ≤ n) : Calls Try.prog 7 #[.bool c, .int .u8 y, .int .u8 n] w fun e w' => ∃ v t, e = .returned v ∧ PExpr w' v t ∧ Below w.heap.size w w' := by
  cases c
  · exact build_leaf y n w hy
  · exact build_if y n w hy hn

/-- What the test answers. -/
def canS (x y : Int) : Bool := x == y && x != 0 && x != 1

theorem canS_comm (x y : Int) : canS x y = canS y x := by
  unfold canS
  by_cases h : x = y
  · subst h; rfl
  · have h1 : (x == y) = false := by simpa using h
    have h2 : (y == x) = false := by simpa using fun e : y = x => h e.symm
    rw [h1, h2]; rfl

theorem can (v1 v2 : Value) (x y : Int) (w : World) (h1 : PExpr w v1 x) (h2 : PExpr w v2 y) : Calls Try.prog 8 #[v1, v2] w fun e w' => e = .returned (.bool (canS x y)) ∧ Below w.heap.size w w' := by
  obtain ⟨d1, rfl, _, p1⟩ := h1
  obtain ⟨d2, rfl, _, p2⟩ := h2
  have P1 := Lib.hid p1
  have P2 := Lib.hid p2
  clear p1 p2
  obtain ⟨A, hA⟩ : ∃ A, (x == y) = A := ⟨_, rfl⟩
  obtain ⟨B, hB⟩ : ∃ B, (x != 0) = B := ⟨_, rfl⟩
  obtain ⟨C, hC⟩ : ∃ C, (x != 1) = C := ⟨_, rfl⟩
  have hr : canS x y = (A && B && C) := by unfold canS; rw [hA, hB, hC]
  rw [hr]
  have HR := Lib.hid hr
  clear hr
  cases A <;> cases B <;> cases C <;> as_aux_lemma =>
    go_enter Try.func8, Try.ntmps8
    go_wp2_with fail
    refine (P1.out _ (by go_grown)).mono ?_
    rintro e w1 ⟨rfl, b1⟩
    have B1 : Below w.heap.size w w1 := Below.trans (by go_grown) (b1.mono (by go_size))
    have c2 : w1.cell? ⟨w.heap.size + 1, 0, none⟩ = some d2 := by rw [b1.cell (p := ⟨w.heap.size + 1, 0, none⟩) (by go_size)]; go_simp
    clear b1
    go_wp2_with fail
    refine (P2.out _ B1).mono ?_
    rintro e w2 ⟨rfl, b2⟩
    go_wp2_with fail
    go_ret
    exact ⟨rfl, B1.trans (b2.mono B1.size)⟩

/-- The worlds that agree with w but for the blocks of X and new ones. -/
structure Agree (X : Nat → Prop) (w w' : World) : Prop where
  os : w'.os = w.os
  tape : w'.tape = w.tape
  output : w'.output = w.output
  size : w.heap.size ≤ w'.heap.size
  block : ∀ k, ¬ X k → k < w.heap.size → w'.heap[k]? = w.heap[k]?

theorem Agree.trans {X : Nat → Prop} {a b c : World} (h : Agree X a b) (k : Agree X b c) : Agree X a c :=
  ⟨k.os.trans h.os, k.tape.trans h.tape, k.output.trans h.output, Nat.le_trans h.size k.size, fun i hi hl => (k.block i hi (Nat.lt_of_lt_of_le hl h.size)).trans (h.block i hi hl)⟩
theorem Agree.of_below {X : Nat → Prop} {w w' : World} (h : Below w.heap.size w w') : Agree X w w' := ⟨h.os, h.tape, h.output, h.size, fun k _ hk => h.block k hk⟩

def PrimX (X : Nat → Prop) (w : World) (d : Value) (t : Int) : Prop :=
  ∀ w', Agree X w w' → Calls Try.prog 26 #[d] w' fun e w'' => e = .returned (.int .u8 t) ∧ Below w'.heap.size w' w''

theorem PrimX.toPrim {X : Nat → Prop} {w w1 : World} {d : Value} {t : Int} (h : PrimX X w d t) (ha : Agree X w w1) : Prim w1 d t := fun w' hb => h w' (ha.trans (Agree.of_below hb))

theorem Prim.toX {w w0 : World} {d : Value} {t : Int} (h : Prim w d t) (hb : Below w.heap.size w w0) : PrimX (fun k => w.heap.size ≤ k) w0 d t := fun w' ha =>
  h w' ⟨ha.os.trans hb.os, ha.tape.trans hb.tape, ha.output.trans hb.output, Nat.le_trans hb.size ha.size, fun k hk => (ha.block k (by omega) (Nat.lt_of_lt_of_le hk hb.size)).trans (hb.block k hk)⟩

theorem PrimX.sub {X Y : Nat → Prop} {w : World} {d : Value} {t : Int} (h : PrimX X w d t) (hs : ∀ k, Y k → X k) : PrimX Y w d t := fun w' ha =>
  h w' ⟨ha.os, ha.tape, ha.output, ha.size, fun k hk => ha.block k (fun hy => hk (hs k hy))⟩

theorem agree_step {w wr : World} {D : Value} {o : Obj} (hlt : w.heap.size < wr.heap.size) :
    Agree (fun k => w.heap.size ≤ k ∧ k ≤ w.heap.size + 1) wr (((wr.setCell ⟨w.heap.size, 0, none⟩ D).setCell ⟨w.heap.size, 1, none⟩ (.int .i32 0)).alloc o) := by
  refine ⟨rfl, rfl, rfl, by simp, fun k hk hl => ?_⟩
  have hne : k ≠ w.heap.size := fun e => hk ⟨by omega, by omega⟩
  rw [Below.heap_alloc _ _ _ (by simpa using hl), Below.heap_setCell _ _ _ _ hne, Below.heap_setCell _ _ _ _ hne]

theorem primX_step {w wr : World} {dk : Value} {t : Int} {s : Value} (hlt : w.heap.size + 1 < wr.heap.size) (h : PrimX (fun k => w.heap.size ≤ k ∧ k ≤ w.heap.size + 1) wr dk t) :
    PrimX (fun k => w.heap.size ≤ k ∧ k ≤ w.heap.size + 1) (((wr.setCell ⟨w.heap.size, 0, none⟩ (.iface 82 (.pointer (some ⟨wr.heap.size, 0, none⟩)))).setCell ⟨w.heap.size, 1, none⟩ (.int .i32 0)).alloc (.cells #[dk, .int .i32 0, s] 84))
      (.iface 82 (.pointer (some ⟨wr.heap.size, 0, none⟩))) t := by
  intro w'' ha
  have r5 := RowAt.new ((wr.setCell ⟨w.heap.size, 0, none⟩ (.iface 82 (.pointer (some ⟨wr.heap.size, 0, none⟩)))).setCell ⟨w.heap.size, 1, none⟩ (.int .i32 0)) #[dk, .int .i32 0, s] 84
  simp only [World.size_setCell] at r5
  have r6 : RowAt w'' wr.heap.size #[dk, .int .i32 0, s] 84 := (ha.block wr.heap.size (fun e => by omega) r5.lt).trans r5
  exact enum_known wr.heap.size dk t w'' (r6.cellv (j := 0) rfl) (h.toPrim ((agree_step (by omega)).trans ha))

theorem wrap (v : Value) (t n : Int) (w : World) (h : PExpr w v t) (h0 : 0 ≤ n) (h1 : n ≤ 255) :
    Calls Try.prog 9 #[v, .int .u8 n] w fun e w' => ∃ v', e = .returned v' ∧ PExpr w' v' t ∧ Below w.heap.size w w' := by
  obtain ⟨d, rfl, hd, hp⟩ := h
  obtain ⟨m, rfl⟩ := Int.eq_ofNat_of_zero_le h0
  have HP := Lib.hid hp
  clear hp
  go_enter Try.func9, Try.ntmps9
  go_wp2_with fail
  go_loopw [5] (fun v5 wr => ∃ (k : Nat) (dk : Value), k ≤ m ∧ v5 = .int .i64 k ∧ RowAt wr w.heap.size #[dk, .int .i32 0] 27 ∧ RowAt wr (w.heap.size + 1) #[.nilIface, .int .i32 0] 27 ∧ dk.oneCell' = true ∧
      PrimX (fun k => w.heap.size ≤ k ∧ k ≤ w.heap.size + 1) wr dk t ∧ Below w.heap.size w wr) (fun v5 _ => m - (intOf v5).toNat)
  case atStart =>
    refine ⟨0, d, Nat.zero_le _, rfl, (RowAt.new w _ _).alloc _, ?_, hd, (HP.out.toX (by go_grown)).sub (fun k hk => hk.1), by go_grown⟩
    have := RowAt.new (w.alloc (.cells #[d, .int .i32 0] 27)) #[.nilIface, .int .i32 0] 27
    simpa using this
  case round =>
    obtain ⟨k, dk, hk, rfl, hr, hs, hd', hX, hb⟩ := hrel
    have hst := fun (A : Addr) (W : World) (m : Mode) => run_store Try.prog W A dk m hd'
    have c0 := hr.cellv (j := 0) rfl
    have c1 := hr.cellv (j := 1) rfl
    have f0 := hr.frozen 0
    have f1 := hr.frozen 1
    have s0 := hs.cellv (j := 0) rfl
    have s1 := hs.cellv (j := 1) rfl
    have g0 := hs.frozen 0
    have g1 := hs.frozen 1
    have hlt2 := hs.lt
    have hlt3 := hr.lt
    have hsz := hb.size
    have HR := Lib.hid hr
    have HS := Lib.hid hs
    have HX := Lib.hid hX
    clear hr hs hX
    by_cases hlt : k < m
    · go_wp2
      go_roundw
      case rel =>
        refine ⟨k + 1, _, by omega, by go_num, ?_, ?_, rfl, primX_step hlt2 HX.out, by go_grown⟩
        · exact (((HR.out.set 0 _).set 1 _).alloc _)
        · exact (((HS.out.set_other (by omega) 0 _).set_other (by omega) 1 _).alloc _)
      case measure => simp [intOf]; omega
    · obtain ⟨e0, e1⟩ := two_cells HS.out dk (.int .i32 0)
      have HE0 := Lib.hid e0
      have HE1 := Lib.hid e1
      clear e0 e1
      go_wp2
      have e0 := HE0.out
      have e1 := HE1.out
      refine bodyPost_ret (v := .agg #[dk, .int .i32 0]) (by simp [results, Try.results9, go_sem, e0, e1]) rfl ⟨_, rfl, ⟨dk, rfl, hd', HX.out.toPrim ⟨rfl, rfl, rfl, by simp, fun j hj hl => ?_⟩⟩, by go_grown⟩
      have hne : j ≠ w.heap.size + 1 := fun e => hj ⟨by omega, by omega⟩
      rw [Below.heap_setCell _ _ _ _ hne, Below.heap_setCell _ _ _ _ hne]


end Go.Proofs.Ytailfkedgdlldac.fnCanChangeStrictToLooseSymmetricThroughEnums
