import Derived.Test.YtfmfniddnlpkmaaDoorKit
import Derived.Test.YtfmfniddnlpkmaaDoorObH
import Derived.Laws.Cover2
namespace Go.Proofs.YtfmfniddnlpkmaaDoor
open Go.ChangeShapes Go.WideShapes Go.ChangeAt Go.RowKit
set_option linter.unusedVariables false
set_option maxRecDepth 100000
set_option maxHeartbeats 2000000

theorem info234 : (Tryd.prog.info? 234).map (fun i => (i.zero, i.size, i.bytes)) = some (some (.pointer none), 1, 8) := by kernel_rfl
def G (qf : Nat → Nat) (Bf : Nat → Bool) : Nat → Value := fun x => ((pC (qf (x / 12)) (Bf (x / 12)))[x % 12]?).getD .nilIface
theorem G_at {qf : Nat → Nat} {Bf : Nat → Bool} {i k : Nat} {v : Value} (hk : k < 12) (h : (pC (qf i) (Bf i))[k]? = some v) : G qf Bf (i * 12 + k) = v := by
  have a : (i * 12 + k) / 12 = i := by omega
  have b : (i * 12 + k) % 12 = k := by omega
  unfold G
  rw [a, b, h]
  rfl
theorem stepG {W : World} {PR N m m' : Nat} {E : TypeId} {f : Nat → Value} {v : Value} (h : RowUpTo W PR E N m f) (hm : m < N) (hm' : m' = m + 1) (hv : f m = v) : RowUpTo (W.setCell ⟨PR, m, none⟩ v) PR E N m' f := by
  subst hm'
  subst hv
  exact h.step hm
theorem otherG {W : World} {R N m c j : Nat} {E : TypeId} {f : Nat → Value} {v : Value} (h : RowUpTo W R E N m f) (hc : R ≠ c) : RowUpTo (W.setCell ⟨c, j, none⟩ v) R E N m f := h.kept (heap_set hc)
theorem allocG {W : World} {R N m : Nat} {E : TypeId} {f : Nat → Value} (h : RowUpTo W R E N m f) (o : Obj) : RowUpTo (W.alloc o) R E N m f := h.kept (Below.heap_alloc _ _ _ h.lt)
def Obj22 (n : Nat) (sl : Bool) (Bf : Nat → Bool) (w : World) (e : Ending) (w' : World) : Prop :=
  ∃ EO PR P qf, e = .returned (.tuple #[.pointer (some ⟨EO, 0, none⟩), .slice (some ⟨P, 0, none⟩) n n]) ∧ Obj32 w' EO PR n sl qf Bf ∧ Below w.heap.size w w'
set_option maxHeartbeats 16000000 in
theorem obj22 (fs : Option Addr) (FB n : Nat) (sl : Bool) (Bf : Nat → Bool) (w : World) (hn : n ≤ 65536) (hfs : n = 0 ∧ fs = none ∨ fs = some ⟨FB, 0, none⟩ ∧ RowUpTo w FB 4 n n (fun i => .bool (Bf i))) :
    Calls Tryd.prog 22 #[.slice fs n n, .bool sl] w (Obj22 n sl Bf w) := by
  obtain ⟨i0, hi, hz0, hz1, hz2⟩ := info_parts info234
  obtain ⟨j0, gi, gz0, gz1, gz2⟩ := info_parts info242
  have hcv := fun (W : World) (n : Int) => Go.run_convert_int_float (P := Tryd.prog) W 3 175 .i64 .f64 n (by rw [Tryd.underlying3]; rfl) Tryd.underlying175
  have HFS := Lib.hid hfs
  clear hfs
  go_enter Tryd.func22, Tryd.ntmps22
  go_wp2_with (at_make; refine wpList_make_full _ rfl _ _ 64 rfl w.heap.size 234 i0 _ 1 Tryd.underlying64 hi hz0 hz1 .i64 .i64 _ _ n rfl rfl rfl rfl (by rw [hz2]; omega) (by unfold maxLen; omega) (Nat.le_refl _) ?_)
  intro w1 hown hgrow
  obtain ⟨cs0, hr0, hs0, _⟩ := RowAt.of_owns hown
  have hb1 : Below w.heap.size w w1 := (Below.refl _ _).grown hgrow (Nat.le_refl _) (fun k hk => by cases hk)
  have HP0 : Hid (∃ cs, RowAt w1 w.heap.size cs 234 ∧ cs.size = n) := ⟨cs0, hr0, by omega⟩
  have z1 := hr0.lt
  have HB1 := Lib.hid hb1
  clear hown hgrow hr0 hs0 hb1 hi hz0 hz1 hz2
  go_wp2_with (at_make; refine wpList_make_full _ rfl _ _ 233 rfl w1.heap.size 242 j0 _ 12 Tryd.underlying233 gi gz0 gz1 .i64 .i64 _ _ n rfl rfl rfl rfl (by rw [gz2]; omega) (by unfold maxLen; omega) (Nat.le_refl _) ?_)
  intro w2 hown hgrow
  obtain ⟨cs1, hr1, hs1, _⟩ := RowAt.of_owns hown
  have hb2 : Below w1.heap.size w1 w2 := (Below.refl _ _).grown hgrow (Nat.le_refl _) (fun k hk => by cases hk)
  obtain ⟨csp, hp, hps⟩ := HP0.out
  have hl0 : w2.heap.size = w2.heap.size + 2 * 0 ∧ RowUpTo w2 w.heap.size 234 n 0 (fun j => .pointer (some ⟨w2.heap.size + 2 * j, 0, none⟩)) ∧ RowUpTo w2 w1.heap.size 242 (n * 12) (0 * 12) (G (fun j => w2.heap.size + 2 * j) Bf) ∧ Below w.heap.size w w2 :=
    ⟨rfl, RowUpTo.start (hp.below hb2 hp.lt) hps _, by rw [Nat.zero_mul]; exact RowUpTo.start hr1 (by omega) _, HB1.out.trans (hb2.mono (by omega))⟩
  have z2 := hr1.lt
  have hPP : w.heap.size ≠ w1.heap.size := by omega
  obtain ⟨PR, hPR⟩ : ∃ x, w1.heap.size = x := ⟨_, rfl⟩
  have hle : w.heap.size ≤ PR := by omega
  obtain ⟨B0, hB0⟩ : ∃ x, w2.heap.size = x := ⟨_, rfl⟩
  rw [hB0, hPR] at hl0
  rw [hPR] at hPP z2 ⊢
  have hB1 : w2.heap.size = B0 + 2 * 0 := by omega
  rw [← hl0.1] at hl0
  have HL0 := Lib.hid hl0
  have HB1 := Lib.hid hB1
  clear hown hgrow hr1 hs1 hb2 hp hps gi gz0 gz1 gz2 HP0 HB1 hl0 hB0 hPR
  go_wp2_with fail
  go_loopw [9] (fun v9 wr => ∃ i : Nat, i ≤ n ∧ v9 = .int .i64 i ∧ wr.heap.size = B0 + 2 * i ∧ RowUpTo wr w.heap.size 234 n i (fun j => .pointer (some ⟨B0 + 2 * j, 0, none⟩)) ∧ RowUpTo wr PR 242 (n * 12) (i * 12) (G (fun j => B0 + 2 * j) Bf) ∧ Below w.heap.size w wr) (fun v9 _ => n - (intOf v9).toNat)
  case atStart => exact ⟨0, Nat.zero_le _, rfl, hB1, HL0.out.2⟩
  case round =>
    obtain ⟨i, hi, rfl, hz, hP, hR, hb⟩ := hrel
    have HZ := Lib.hid hz
    have HP := Lib.hid hP
    have HR := Lib.hid hR
    have HB := Lib.hid hb
    have yP := hP.lt
    have yR := hR.lt
    clear hz hP hR hb hB1 HL0 z1 z2
    by_cases hlt : i < n
    · obtain ⟨rfl, hF⟩ : fs = some ⟨FB, 0, none⟩ ∧ RowUpTo w FB 4 n n (fun i => .bool (Bf i)) := by
        rcases HFS.out with ⟨h, _⟩ | h
        · omega
        · exact h
      have yF0 := hF.lt
      have hF2 := hF.below HB.out hF.lt
      have yF := hF2.lt
      have hfc := hF2.cell hlt
      obtain ⟨b, hb⟩ : ∃ b, Bf i = b := ⟨_, rfl⟩
      have HBi := Lib.hid hb
      rw [hb] at hfc
      clear hF hF2 hb
      obtain ⟨x0, q0⟩ := HP.out.old hlt
      have fP := HP.out.frozen
      have fR := HR.out.frozen
      obtain ⟨o0, c0⟩ := HR.out.old (i := i * 12) (by omega)
      obtain ⟨o1, c1⟩ := HR.out.old (i := i * 12 + 1) (by omega)
      obtain ⟨o2, c2⟩ := HR.out.old (i := i * 12 + 2) (by omega)
      obtain ⟨o3, c3⟩ := HR.out.old (i := i * 12 + 3) (by omega)
      obtain ⟨o4, c4⟩ := HR.out.old (i := i * 12 + 4) (by omega)
      obtain ⟨o5, c5⟩ := HR.out.old (i := i * 12 + 5) (by omega)
      obtain ⟨o6, c6⟩ := HR.out.old (i := i * 12 + 6) (by omega)
      obtain ⟨o7, c7⟩ := HR.out.old (i := i * 12 + 7) (by omega)
      obtain ⟨o8, c8⟩ := HR.out.old (i := i * 12 + 8) (by omega)
      obtain ⟨o9, c9⟩ := HR.out.old (i := i * 12 + 9) (by omega)
      obtain ⟨o10, c10⟩ := HR.out.old (i := i * 12 + 10) (by omega)
      obtain ⟨o11, c11⟩ := HR.out.old (i := i * 12 + 11) (by omega)
      have hFP : FB ≠ w.heap.size := by omega
      have yF1 : FB < wr.heap.size + 1 := by omega
      have yF2 : FB < wr.heap.size + 1 + 1 := by omega
      have yP1 : w.heap.size < wr.heap.size + 1 := by omega
      have yP2 : w.heap.size < wr.heap.size + 1 + 1 := by omega
      have yR1 : PR < wr.heap.size + 1 := by omega
      have yR2 : PR < wr.heap.size + 1 + 1 := by omega
      cases b
      · have hval : (fun j : Nat => Value.pointer (some (⟨B0 + 2 * j, 0, none⟩ : Addr))) i = .pointer (some ⟨wr.heap.size, 0, none⟩) := by show Value.pointer (some (⟨B0 + 2 * i, 0, none⟩ : Addr)) = _; rw [HZ.out]
        have p0 : RowUpTo (wr.setCell ⟨w.heap.size, i, none⟩ (.pointer (some ⟨wr.heap.size, 0, none⟩))) w.heap.size 234 n (i + 1) (fun j => .pointer (some ⟨B0 + 2 * j, 0, none⟩)) := stepG HP.out hlt rfl hval
        have hP9 : RowUpTo ((((((((((((((((wr.setCell ⟨w.heap.size, i, none⟩ (.pointer (some ⟨wr.heap.size, 0, none⟩))).setCell ⟨PR, i * 12, none⟩ (.pointer none)).setCell ⟨PR, i * 12 + 1, none⟩ (.nilIface)).setCell ⟨PR, i * 12 + 2, none⟩ (.int .i32 0)).setCell ⟨PR, i * 12 + 3, none⟩ (.iface 234 (.pointer (some ⟨wr.heap.size, 0, none⟩)))).setCell ⟨PR, i * 12 + 4, none⟩ (.int .i32 0)).setCell ⟨PR, i * 12 + 5, none⟩ (.nilIface)).setCell ⟨PR, i * 12 + 6, none⟩ (.int .i32 0)).setCell ⟨PR, i * 12 + 7, none⟩ (.slice none 0 0)).setCell ⟨PR, i * 12 + 8, none⟩ (.int .i32 0)).setCell ⟨PR, i * 12 + 9, none⟩ (.int .i32 0)).setCell ⟨PR, i * 12 + 10, none⟩ (.int .u8 0)).setCell ⟨PR, i * 12 + 11, none⟩ (.int .u8 0))).alloc (.cells #[.float .f64 (floatOfInt .f64 i)] 236)).alloc (.cells #[.pointer none, .nilIface, .int .i32 0, .iface 234 (.pointer (some ⟨wr.heap.size, 0, none⟩)), .int .i32 0, .nilIface, .int .i32 0, .slice none 0 0, .int .i32 0, .int .i32 0, .int .u8 0, .int .u8 0] 242)) w.heap.size 234 n (i + 1) (fun j => .pointer (some ⟨B0 + 2 * j, 0, none⟩)) := allocG (allocG (otherG (otherG (otherG (otherG (otherG (otherG (otherG (otherG (otherG (otherG (otherG (otherG p0 hPP) hPP) hPP) hPP) hPP) hPP) hPP) hPP) hPP) hPP) hPP) hPP) _) _
        have r0 : RowUpTo (wr.setCell ⟨w.heap.size, i, none⟩ (.pointer (some ⟨wr.heap.size, 0, none⟩))) PR 242 (n * 12) (i * 12) (G (fun j => B0 + 2 * j) Bf) := otherG HR.out (fun e => hPP e.symm)
        have r1 : RowUpTo ((wr.setCell ⟨w.heap.size, i, none⟩ (.pointer (some ⟨wr.heap.size, 0, none⟩))).setCell ⟨PR, i * 12, none⟩ (.pointer none)) PR 242 (n * 12) (i * 12 + 1) (G (fun j => B0 + 2 * j) Bf) := stepG r0 (by omega) (by omega) (G_at (k := 0) (by decide) rfl)
        have r2 : RowUpTo (((wr.setCell ⟨w.heap.size, i, none⟩ (.pointer (some ⟨wr.heap.size, 0, none⟩))).setCell ⟨PR, i * 12, none⟩ (.pointer none)).setCell ⟨PR, i * 12 + 1, none⟩ (.nilIface)) PR 242 (n * 12) (i * 12 + 2) (G (fun j => B0 + 2 * j) Bf) := stepG r1 (by omega) (by omega) (G_at (k := 1) (by decide) rfl)
        have r3 : RowUpTo ((((wr.setCell ⟨w.heap.size, i, none⟩ (.pointer (some ⟨wr.heap.size, 0, none⟩))).setCell ⟨PR, i * 12, none⟩ (.pointer none)).setCell ⟨PR, i * 12 + 1, none⟩ (.nilIface)).setCell ⟨PR, i * 12 + 2, none⟩ (.int .i32 0)) PR 242 (n * 12) (i * 12 + 3) (G (fun j => B0 + 2 * j) Bf) := stepG r2 (by omega) (by omega) (G_at (k := 2) (by decide) rfl)
        have r4 : RowUpTo (((((wr.setCell ⟨w.heap.size, i, none⟩ (.pointer (some ⟨wr.heap.size, 0, none⟩))).setCell ⟨PR, i * 12, none⟩ (.pointer none)).setCell ⟨PR, i * 12 + 1, none⟩ (.nilIface)).setCell ⟨PR, i * 12 + 2, none⟩ (.int .i32 0)).setCell ⟨PR, i * 12 + 3, none⟩ (.iface 234 (.pointer (some ⟨wr.heap.size, 0, none⟩)))) PR 242 (n * 12) (i * 12 + 4) (G (fun j => B0 + 2 * j) Bf) := stepG r3 (by omega) (by omega) (G_at (k := 3) (by decide) (by show some (Value.iface 234 (.pointer (some (⟨B0 + 2 * i, 0, none⟩ : Addr)))) = _; rw [HZ.out]))
        have r5 : RowUpTo ((((((wr.setCell ⟨w.heap.size, i, none⟩ (.pointer (some ⟨wr.heap.size, 0, none⟩))).setCell ⟨PR, i * 12, none⟩ (.pointer none)).setCell ⟨PR, i * 12 + 1, none⟩ (.nilIface)).setCell ⟨PR, i * 12 + 2, none⟩ (.int .i32 0)).setCell ⟨PR, i * 12 + 3, none⟩ (.iface 234 (.pointer (some ⟨wr.heap.size, 0, none⟩)))).setCell ⟨PR, i * 12 + 4, none⟩ (.int .i32 0)) PR 242 (n * 12) (i * 12 + 5) (G (fun j => B0 + 2 * j) Bf) := stepG r4 (by omega) (by omega) (G_at (k := 4) (by decide) rfl)
        have r6 : RowUpTo (((((((wr.setCell ⟨w.heap.size, i, none⟩ (.pointer (some ⟨wr.heap.size, 0, none⟩))).setCell ⟨PR, i * 12, none⟩ (.pointer none)).setCell ⟨PR, i * 12 + 1, none⟩ (.nilIface)).setCell ⟨PR, i * 12 + 2, none⟩ (.int .i32 0)).setCell ⟨PR, i * 12 + 3, none⟩ (.iface 234 (.pointer (some ⟨wr.heap.size, 0, none⟩)))).setCell ⟨PR, i * 12 + 4, none⟩ (.int .i32 0)).setCell ⟨PR, i * 12 + 5, none⟩ (.nilIface)) PR 242 (n * 12) (i * 12 + 6) (G (fun j => B0 + 2 * j) Bf) := stepG r5 (by omega) (by omega) (G_at (k := 5) (by decide) rfl)
        have r7 : RowUpTo ((((((((wr.setCell ⟨w.heap.size, i, none⟩ (.pointer (some ⟨wr.heap.size, 0, none⟩))).setCell ⟨PR, i * 12, none⟩ (.pointer none)).setCell ⟨PR, i * 12 + 1, none⟩ (.nilIface)).setCell ⟨PR, i * 12 + 2, none⟩ (.int .i32 0)).setCell ⟨PR, i * 12 + 3, none⟩ (.iface 234 (.pointer (some ⟨wr.heap.size, 0, none⟩)))).setCell ⟨PR, i * 12 + 4, none⟩ (.int .i32 0)).setCell ⟨PR, i * 12 + 5, none⟩ (.nilIface)).setCell ⟨PR, i * 12 + 6, none⟩ (.int .i32 0)) PR 242 (n * 12) (i * 12 + 7) (G (fun j => B0 + 2 * j) Bf) := stepG r6 (by omega) (by omega) (G_at (k := 6) (by decide) rfl)
        have r8 : RowUpTo (((((((((wr.setCell ⟨w.heap.size, i, none⟩ (.pointer (some ⟨wr.heap.size, 0, none⟩))).setCell ⟨PR, i * 12, none⟩ (.pointer none)).setCell ⟨PR, i * 12 + 1, none⟩ (.nilIface)).setCell ⟨PR, i * 12 + 2, none⟩ (.int .i32 0)).setCell ⟨PR, i * 12 + 3, none⟩ (.iface 234 (.pointer (some ⟨wr.heap.size, 0, none⟩)))).setCell ⟨PR, i * 12 + 4, none⟩ (.int .i32 0)).setCell ⟨PR, i * 12 + 5, none⟩ (.nilIface)).setCell ⟨PR, i * 12 + 6, none⟩ (.int .i32 0)).setCell ⟨PR, i * 12 + 7, none⟩ (.slice none 0 0)) PR 242 (n * 12) (i * 12 + 8) (G (fun j => B0 + 2 * j) Bf) := stepG r7 (by omega) (by omega) (G_at (k := 7) (by decide) rfl)
        have r9 : RowUpTo ((((((((((wr.setCell ⟨w.heap.size, i, none⟩ (.pointer (some ⟨wr.heap.size, 0, none⟩))).setCell ⟨PR, i * 12, none⟩ (.pointer none)).setCell ⟨PR, i * 12 + 1, none⟩ (.nilIface)).setCell ⟨PR, i * 12 + 2, none⟩ (.int .i32 0)).setCell ⟨PR, i * 12 + 3, none⟩ (.iface 234 (.pointer (some ⟨wr.heap.size, 0, none⟩)))).setCell ⟨PR, i * 12 + 4, none⟩ (.int .i32 0)).setCell ⟨PR, i * 12 + 5, none⟩ (.nilIface)).setCell ⟨PR, i * 12 + 6, none⟩ (.int .i32 0)).setCell ⟨PR, i * 12 + 7, none⟩ (.slice none 0 0)).setCell ⟨PR, i * 12 + 8, none⟩ (.int .i32 0)) PR 242 (n * 12) (i * 12 + 9) (G (fun j => B0 + 2 * j) Bf) := stepG r8 (by omega) (by omega) (G_at (k := 8) (by decide) rfl)
        have r10 : RowUpTo (((((((((((wr.setCell ⟨w.heap.size, i, none⟩ (.pointer (some ⟨wr.heap.size, 0, none⟩))).setCell ⟨PR, i * 12, none⟩ (.pointer none)).setCell ⟨PR, i * 12 + 1, none⟩ (.nilIface)).setCell ⟨PR, i * 12 + 2, none⟩ (.int .i32 0)).setCell ⟨PR, i * 12 + 3, none⟩ (.iface 234 (.pointer (some ⟨wr.heap.size, 0, none⟩)))).setCell ⟨PR, i * 12 + 4, none⟩ (.int .i32 0)).setCell ⟨PR, i * 12 + 5, none⟩ (.nilIface)).setCell ⟨PR, i * 12 + 6, none⟩ (.int .i32 0)).setCell ⟨PR, i * 12 + 7, none⟩ (.slice none 0 0)).setCell ⟨PR, i * 12 + 8, none⟩ (.int .i32 0)).setCell ⟨PR, i * 12 + 9, none⟩ (.int .i32 0)) PR 242 (n * 12) (i * 12 + 10) (G (fun j => B0 + 2 * j) Bf) := stepG r9 (by omega) (by omega) (G_at (k := 9) (by decide) rfl)
        have r11 : RowUpTo ((((((((((((wr.setCell ⟨w.heap.size, i, none⟩ (.pointer (some ⟨wr.heap.size, 0, none⟩))).setCell ⟨PR, i * 12, none⟩ (.pointer none)).setCell ⟨PR, i * 12 + 1, none⟩ (.nilIface)).setCell ⟨PR, i * 12 + 2, none⟩ (.int .i32 0)).setCell ⟨PR, i * 12 + 3, none⟩ (.iface 234 (.pointer (some ⟨wr.heap.size, 0, none⟩)))).setCell ⟨PR, i * 12 + 4, none⟩ (.int .i32 0)).setCell ⟨PR, i * 12 + 5, none⟩ (.nilIface)).setCell ⟨PR, i * 12 + 6, none⟩ (.int .i32 0)).setCell ⟨PR, i * 12 + 7, none⟩ (.slice none 0 0)).setCell ⟨PR, i * 12 + 8, none⟩ (.int .i32 0)).setCell ⟨PR, i * 12 + 9, none⟩ (.int .i32 0)).setCell ⟨PR, i * 12 + 10, none⟩ (.int .u8 0)) PR 242 (n * 12) (i * 12 + 11) (G (fun j => B0 + 2 * j) Bf) := stepG r10 (by omega) (by omega) (G_at (k := 10) (by decide) (by rw [HBi.out]; rfl))
        have r12 : RowUpTo (((((((((((((wr.setCell ⟨w.heap.size, i, none⟩ (.pointer (some ⟨wr.heap.size, 0, none⟩))).setCell ⟨PR, i * 12, none⟩ (.pointer none)).setCell ⟨PR, i * 12 + 1, none⟩ (.nilIface)).setCell ⟨PR, i * 12 + 2, none⟩ (.int .i32 0)).setCell ⟨PR, i * 12 + 3, none⟩ (.iface 234 (.pointer (some ⟨wr.heap.size, 0, none⟩)))).setCell ⟨PR, i * 12 + 4, none⟩ (.int .i32 0)).setCell ⟨PR, i * 12 + 5, none⟩ (.nilIface)).setCell ⟨PR, i * 12 + 6, none⟩ (.int .i32 0)).setCell ⟨PR, i * 12 + 7, none⟩ (.slice none 0 0)).setCell ⟨PR, i * 12 + 8, none⟩ (.int .i32 0)).setCell ⟨PR, i * 12 + 9, none⟩ (.int .i32 0)).setCell ⟨PR, i * 12 + 10, none⟩ (.int .u8 0)).setCell ⟨PR, i * 12 + 11, none⟩ (.int .u8 0)) PR 242 (n * 12) (i * 12 + 12) (G (fun j => B0 + 2 * j) Bf) := stepG r11 (by omega) (by omega) (G_at (k := 11) (by decide) rfl)
        have hR9 : RowUpTo ((((((((((((((((wr.setCell ⟨w.heap.size, i, none⟩ (.pointer (some ⟨wr.heap.size, 0, none⟩))).setCell ⟨PR, i * 12, none⟩ (.pointer none)).setCell ⟨PR, i * 12 + 1, none⟩ (.nilIface)).setCell ⟨PR, i * 12 + 2, none⟩ (.int .i32 0)).setCell ⟨PR, i * 12 + 3, none⟩ (.iface 234 (.pointer (some ⟨wr.heap.size, 0, none⟩)))).setCell ⟨PR, i * 12 + 4, none⟩ (.int .i32 0)).setCell ⟨PR, i * 12 + 5, none⟩ (.nilIface)).setCell ⟨PR, i * 12 + 6, none⟩ (.int .i32 0)).setCell ⟨PR, i * 12 + 7, none⟩ (.slice none 0 0)).setCell ⟨PR, i * 12 + 8, none⟩ (.int .i32 0)).setCell ⟨PR, i * 12 + 9, none⟩ (.int .i32 0)).setCell ⟨PR, i * 12 + 10, none⟩ (.int .u8 0)).setCell ⟨PR, i * 12 + 11, none⟩ (.int .u8 0))).alloc (.cells #[.float .f64 (floatOfInt .f64 i)] 236)).alloc (.cells #[.pointer none, .nilIface, .int .i32 0, .iface 234 (.pointer (some ⟨wr.heap.size, 0, none⟩)), .int .i32 0, .nilIface, .int .i32 0, .slice none 0 0, .int .i32 0, .int .i32 0, .int .u8 0, .int .u8 0] 242)) PR 242 (n * 12) ((i + 1) * 12) (G (fun j => B0 + 2 * j) Bf) := by rw [Nat.succ_mul]; exact allocG (allocG r12 _) _
        have hB9 : Below w.heap.size w ((((((((((((((((wr.setCell ⟨w.heap.size, i, none⟩ (.pointer (some ⟨wr.heap.size, 0, none⟩))).setCell ⟨PR, i * 12, none⟩ (.pointer none)).setCell ⟨PR, i * 12 + 1, none⟩ (.nilIface)).setCell ⟨PR, i * 12 + 2, none⟩ (.int .i32 0)).setCell ⟨PR, i * 12 + 3, none⟩ (.iface 234 (.pointer (some ⟨wr.heap.size, 0, none⟩)))).setCell ⟨PR, i * 12 + 4, none⟩ (.int .i32 0)).setCell ⟨PR, i * 12 + 5, none⟩ (.nilIface)).setCell ⟨PR, i * 12 + 6, none⟩ (.int .i32 0)).setCell ⟨PR, i * 12 + 7, none⟩ (.slice none 0 0)).setCell ⟨PR, i * 12 + 8, none⟩ (.int .i32 0)).setCell ⟨PR, i * 12 + 9, none⟩ (.int .i32 0)).setCell ⟨PR, i * 12 + 10, none⟩ (.int .u8 0)).setCell ⟨PR, i * 12 + 11, none⟩ (.int .u8 0))).alloc (.cells #[.float .f64 (floatOfInt .f64 i)] 236)).alloc (.cells #[.pointer none, .nilIface, .int .i32 0, .iface 234 (.pointer (some ⟨wr.heap.size, 0, none⟩)), .int .i32 0, .nilIface, .int .i32 0, .slice none 0 0, .int .i32 0, .int .i32 0, .int .u8 0, .int .u8 0] 242)) := ((((((((((((((HB.out.setCell (Nat.le_refl _) _).setCell hle _).setCell hle _).setCell hle _).setCell hle _).setCell hle _).setCell hle _).setCell hle _).setCell hle _).setCell hle _).setCell hle _).setCell hle _).setCell hle _).alloc (by simp; omega) _).alloc (by simp; omega) _
        have hZ9 : ((((((((((((((((wr.setCell ⟨w.heap.size, i, none⟩ (.pointer (some ⟨wr.heap.size, 0, none⟩))).setCell ⟨PR, i * 12, none⟩ (.pointer none)).setCell ⟨PR, i * 12 + 1, none⟩ (.nilIface)).setCell ⟨PR, i * 12 + 2, none⟩ (.int .i32 0)).setCell ⟨PR, i * 12 + 3, none⟩ (.iface 234 (.pointer (some ⟨wr.heap.size, 0, none⟩)))).setCell ⟨PR, i * 12 + 4, none⟩ (.int .i32 0)).setCell ⟨PR, i * 12 + 5, none⟩ (.nilIface)).setCell ⟨PR, i * 12 + 6, none⟩ (.int .i32 0)).setCell ⟨PR, i * 12 + 7, none⟩ (.slice none 0 0)).setCell ⟨PR, i * 12 + 8, none⟩ (.int .i32 0)).setCell ⟨PR, i * 12 + 9, none⟩ (.int .i32 0)).setCell ⟨PR, i * 12 + 10, none⟩ (.int .u8 0)).setCell ⟨PR, i * 12 + 11, none⟩ (.int .u8 0))).alloc (.cells #[.float .f64 (floatOfInt .f64 i)] 236)).alloc (.cells #[.pointer none, .nilIface, .int .i32 0, .iface 234 (.pointer (some ⟨wr.heap.size, 0, none⟩)), .int .i32 0, .nilIface, .int .i32 0, .slice none 0 0, .int .i32 0, .int .i32 0, .int .u8 0, .int .u8 0] 242)).heap.size = B0 + 2 * (i + 1) := by simp; have := HZ.out; omega
        have HH : Hid _ := Lib.hid (And.intro hZ9 (And.intro hP9 (And.intro hR9 hB9)))
        clear hval p0 hP9 r0 r1 r2 r3 r4 r5 r6 r7 r8 r9 r10 r11 r12 hR9 hB9 hZ9
        go_wp2_with fail
        go_roundw
        case rel => exact ⟨i + 1, by omega, by go_num, HH.out⟩
        case measure => simp [intOf]; omega
      · have hval : (fun j : Nat => Value.pointer (some (⟨B0 + 2 * j, 0, none⟩ : Addr))) i = .pointer (some ⟨wr.heap.size, 0, none⟩) := by show Value.pointer (some (⟨B0 + 2 * i, 0, none⟩ : Addr)) = _; rw [HZ.out]
        have p0 : RowUpTo (wr.setCell ⟨w.heap.size, i, none⟩ (.pointer (some ⟨wr.heap.size, 0, none⟩))) w.heap.size 234 n (i + 1) (fun j => .pointer (some ⟨B0 + 2 * j, 0, none⟩)) := stepG HP.out hlt rfl hval
        have hP9 : RowUpTo ((((((((((((((((wr.setCell ⟨w.heap.size, i, none⟩ (.pointer (some ⟨wr.heap.size, 0, none⟩))).setCell ⟨PR, i * 12, none⟩ (.pointer none)).setCell ⟨PR, i * 12 + 1, none⟩ (.nilIface)).setCell ⟨PR, i * 12 + 2, none⟩ (.int .i32 0)).setCell ⟨PR, i * 12 + 3, none⟩ (.iface 234 (.pointer (some ⟨wr.heap.size, 0, none⟩)))).setCell ⟨PR, i * 12 + 4, none⟩ (.int .i32 0)).setCell ⟨PR, i * 12 + 5, none⟩ (.nilIface)).setCell ⟨PR, i * 12 + 6, none⟩ (.int .i32 0)).setCell ⟨PR, i * 12 + 7, none⟩ (.slice none 0 0)).setCell ⟨PR, i * 12 + 8, none⟩ (.int .i32 0)).setCell ⟨PR, i * 12 + 9, none⟩ (.int .i32 0)).setCell ⟨PR, i * 12 + 10, none⟩ (.int .u8 5)).setCell ⟨PR, i * 12 + 11, none⟩ (.int .u8 0))).alloc (.cells #[.float .f64 (floatOfInt .f64 i)] 236)).alloc (.cells #[.pointer none, .nilIface, .int .i32 0, .iface 234 (.pointer (some ⟨wr.heap.size, 0, none⟩)), .int .i32 0, .nilIface, .int .i32 0, .slice none 0 0, .int .i32 0, .int .i32 0, .int .u8 5, .int .u8 0] 242)) w.heap.size 234 n (i + 1) (fun j => .pointer (some ⟨B0 + 2 * j, 0, none⟩)) := allocG (allocG (otherG (otherG (otherG (otherG (otherG (otherG (otherG (otherG (otherG (otherG (otherG (otherG p0 hPP) hPP) hPP) hPP) hPP) hPP) hPP) hPP) hPP) hPP) hPP) hPP) _) _
        have r0 : RowUpTo (wr.setCell ⟨w.heap.size, i, none⟩ (.pointer (some ⟨wr.heap.size, 0, none⟩))) PR 242 (n * 12) (i * 12) (G (fun j => B0 + 2 * j) Bf) := otherG HR.out (fun e => hPP e.symm)
        have r1 : RowUpTo ((wr.setCell ⟨w.heap.size, i, none⟩ (.pointer (some ⟨wr.heap.size, 0, none⟩))).setCell ⟨PR, i * 12, none⟩ (.pointer none)) PR 242 (n * 12) (i * 12 + 1) (G (fun j => B0 + 2 * j) Bf) := stepG r0 (by omega) (by omega) (G_at (k := 0) (by decide) rfl)
        have r2 : RowUpTo (((wr.setCell ⟨w.heap.size, i, none⟩ (.pointer (some ⟨wr.heap.size, 0, none⟩))).setCell ⟨PR, i * 12, none⟩ (.pointer none)).setCell ⟨PR, i * 12 + 1, none⟩ (.nilIface)) PR 242 (n * 12) (i * 12 + 2) (G (fun j => B0 + 2 * j) Bf) := stepG r1 (by omega) (by omega) (G_at (k := 1) (by decide) rfl)
        have r3 : RowUpTo ((((wr.setCell ⟨w.heap.size, i, none⟩ (.pointer (some ⟨wr.heap.size, 0, none⟩))).setCell ⟨PR, i * 12, none⟩ (.pointer none)).setCell ⟨PR, i * 12 + 1, none⟩ (.nilIface)).setCell ⟨PR, i * 12 + 2, none⟩ (.int .i32 0)) PR 242 (n * 12) (i * 12 + 3) (G (fun j => B0 + 2 * j) Bf) := stepG r2 (by omega) (by omega) (G_at (k := 2) (by decide) rfl)
        have r4 : RowUpTo (((((wr.setCell ⟨w.heap.size, i, none⟩ (.pointer (some ⟨wr.heap.size, 0, none⟩))).setCell ⟨PR, i * 12, none⟩ (.pointer none)).setCell ⟨PR, i * 12 + 1, none⟩ (.nilIface)).setCell ⟨PR, i * 12 + 2, none⟩ (.int .i32 0)).setCell ⟨PR, i * 12 + 3, none⟩ (.iface 234 (.pointer (some ⟨wr.heap.size, 0, none⟩)))) PR 242 (n * 12) (i * 12 + 4) (G (fun j => B0 + 2 * j) Bf) := stepG r3 (by omega) (by omega) (G_at (k := 3) (by decide) (by show some (Value.iface 234 (.pointer (some (⟨B0 + 2 * i, 0, none⟩ : Addr)))) = _; rw [HZ.out]))
        have r5 : RowUpTo ((((((wr.setCell ⟨w.heap.size, i, none⟩ (.pointer (some ⟨wr.heap.size, 0, none⟩))).setCell ⟨PR, i * 12, none⟩ (.pointer none)).setCell ⟨PR, i * 12 + 1, none⟩ (.nilIface)).setCell ⟨PR, i * 12 + 2, none⟩ (.int .i32 0)).setCell ⟨PR, i * 12 + 3, none⟩ (.iface 234 (.pointer (some ⟨wr.heap.size, 0, none⟩)))).setCell ⟨PR, i * 12 + 4, none⟩ (.int .i32 0)) PR 242 (n * 12) (i * 12 + 5) (G (fun j => B0 + 2 * j) Bf) := stepG r4 (by omega) (by omega) (G_at (k := 4) (by decide) rfl)
        have r6 : RowUpTo (((((((wr.setCell ⟨w.heap.size, i, none⟩ (.pointer (some ⟨wr.heap.size, 0, none⟩))).setCell ⟨PR, i * 12, none⟩ (.pointer none)).setCell ⟨PR, i * 12 + 1, none⟩ (.nilIface)).setCell ⟨PR, i * 12 + 2, none⟩ (.int .i32 0)).setCell ⟨PR, i * 12 + 3, none⟩ (.iface 234 (.pointer (some ⟨wr.heap.size, 0, none⟩)))).setCell ⟨PR, i * 12 + 4, none⟩ (.int .i32 0)).setCell ⟨PR, i * 12 + 5, none⟩ (.nilIface)) PR 242 (n * 12) (i * 12 + 6) (G (fun j => B0 + 2 * j) Bf) := stepG r5 (by omega) (by omega) (G_at (k := 5) (by decide) rfl)
        have r7 : RowUpTo ((((((((wr.setCell ⟨w.heap.size, i, none⟩ (.pointer (some ⟨wr.heap.size, 0, none⟩))).setCell ⟨PR, i * 12, none⟩ (.pointer none)).setCell ⟨PR, i * 12 + 1, none⟩ (.nilIface)).setCell ⟨PR, i * 12 + 2, none⟩ (.int .i32 0)).setCell ⟨PR, i * 12 + 3, none⟩ (.iface 234 (.pointer (some ⟨wr.heap.size, 0, none⟩)))).setCell ⟨PR, i * 12 + 4, none⟩ (.int .i32 0)).setCell ⟨PR, i * 12 + 5, none⟩ (.nilIface)).setCell ⟨PR, i * 12 + 6, none⟩ (.int .i32 0)) PR 242 (n * 12) (i * 12 + 7) (G (fun j => B0 + 2 * j) Bf) := stepG r6 (by omega) (by omega) (G_at (k := 6) (by decide) rfl)
        have r8 : RowUpTo (((((((((wr.setCell ⟨w.heap.size, i, none⟩ (.pointer (some ⟨wr.heap.size, 0, none⟩))).setCell ⟨PR, i * 12, none⟩ (.pointer none)).setCell ⟨PR, i * 12 + 1, none⟩ (.nilIface)).setCell ⟨PR, i * 12 + 2, none⟩ (.int .i32 0)).setCell ⟨PR, i * 12 + 3, none⟩ (.iface 234 (.pointer (some ⟨wr.heap.size, 0, none⟩)))).setCell ⟨PR, i * 12 + 4, none⟩ (.int .i32 0)).setCell ⟨PR, i * 12 + 5, none⟩ (.nilIface)).setCell ⟨PR, i * 12 + 6, none⟩ (.int .i32 0)).setCell ⟨PR, i * 12 + 7, none⟩ (.slice none 0 0)) PR 242 (n * 12) (i * 12 + 8) (G (fun j => B0 + 2 * j) Bf) := stepG r7 (by omega) (by omega) (G_at (k := 7) (by decide) rfl)
        have r9 : RowUpTo ((((((((((wr.setCell ⟨w.heap.size, i, none⟩ (.pointer (some ⟨wr.heap.size, 0, none⟩))).setCell ⟨PR, i * 12, none⟩ (.pointer none)).setCell ⟨PR, i * 12 + 1, none⟩ (.nilIface)).setCell ⟨PR, i * 12 + 2, none⟩ (.int .i32 0)).setCell ⟨PR, i * 12 + 3, none⟩ (.iface 234 (.pointer (some ⟨wr.heap.size, 0, none⟩)))).setCell ⟨PR, i * 12 + 4, none⟩ (.int .i32 0)).setCell ⟨PR, i * 12 + 5, none⟩ (.nilIface)).setCell ⟨PR, i * 12 + 6, none⟩ (.int .i32 0)).setCell ⟨PR, i * 12 + 7, none⟩ (.slice none 0 0)).setCell ⟨PR, i * 12 + 8, none⟩ (.int .i32 0)) PR 242 (n * 12) (i * 12 + 9) (G (fun j => B0 + 2 * j) Bf) := stepG r8 (by omega) (by omega) (G_at (k := 8) (by decide) rfl)
        have r10 : RowUpTo (((((((((((wr.setCell ⟨w.heap.size, i, none⟩ (.pointer (some ⟨wr.heap.size, 0, none⟩))).setCell ⟨PR, i * 12, none⟩ (.pointer none)).setCell ⟨PR, i * 12 + 1, none⟩ (.nilIface)).setCell ⟨PR, i * 12 + 2, none⟩ (.int .i32 0)).setCell ⟨PR, i * 12 + 3, none⟩ (.iface 234 (.pointer (some ⟨wr.heap.size, 0, none⟩)))).setCell ⟨PR, i * 12 + 4, none⟩ (.int .i32 0)).setCell ⟨PR, i * 12 + 5, none⟩ (.nilIface)).setCell ⟨PR, i * 12 + 6, none⟩ (.int .i32 0)).setCell ⟨PR, i * 12 + 7, none⟩ (.slice none 0 0)).setCell ⟨PR, i * 12 + 8, none⟩ (.int .i32 0)).setCell ⟨PR, i * 12 + 9, none⟩ (.int .i32 0)) PR 242 (n * 12) (i * 12 + 10) (G (fun j => B0 + 2 * j) Bf) := stepG r9 (by omega) (by omega) (G_at (k := 9) (by decide) rfl)
        have r11 : RowUpTo ((((((((((((wr.setCell ⟨w.heap.size, i, none⟩ (.pointer (some ⟨wr.heap.size, 0, none⟩))).setCell ⟨PR, i * 12, none⟩ (.pointer none)).setCell ⟨PR, i * 12 + 1, none⟩ (.nilIface)).setCell ⟨PR, i * 12 + 2, none⟩ (.int .i32 0)).setCell ⟨PR, i * 12 + 3, none⟩ (.iface 234 (.pointer (some ⟨wr.heap.size, 0, none⟩)))).setCell ⟨PR, i * 12 + 4, none⟩ (.int .i32 0)).setCell ⟨PR, i * 12 + 5, none⟩ (.nilIface)).setCell ⟨PR, i * 12 + 6, none⟩ (.int .i32 0)).setCell ⟨PR, i * 12 + 7, none⟩ (.slice none 0 0)).setCell ⟨PR, i * 12 + 8, none⟩ (.int .i32 0)).setCell ⟨PR, i * 12 + 9, none⟩ (.int .i32 0)).setCell ⟨PR, i * 12 + 10, none⟩ (.int .u8 5)) PR 242 (n * 12) (i * 12 + 11) (G (fun j => B0 + 2 * j) Bf) := stepG r10 (by omega) (by omega) (G_at (k := 10) (by decide) (by rw [HBi.out]; rfl))
        have r12 : RowUpTo (((((((((((((wr.setCell ⟨w.heap.size, i, none⟩ (.pointer (some ⟨wr.heap.size, 0, none⟩))).setCell ⟨PR, i * 12, none⟩ (.pointer none)).setCell ⟨PR, i * 12 + 1, none⟩ (.nilIface)).setCell ⟨PR, i * 12 + 2, none⟩ (.int .i32 0)).setCell ⟨PR, i * 12 + 3, none⟩ (.iface 234 (.pointer (some ⟨wr.heap.size, 0, none⟩)))).setCell ⟨PR, i * 12 + 4, none⟩ (.int .i32 0)).setCell ⟨PR, i * 12 + 5, none⟩ (.nilIface)).setCell ⟨PR, i * 12 + 6, none⟩ (.int .i32 0)).setCell ⟨PR, i * 12 + 7, none⟩ (.slice none 0 0)).setCell ⟨PR, i * 12 + 8, none⟩ (.int .i32 0)).setCell ⟨PR, i * 12 + 9, none⟩ (.int .i32 0)).setCell ⟨PR, i * 12 + 10, none⟩ (.int .u8 5)).setCell ⟨PR, i * 12 + 11, none⟩ (.int .u8 0)) PR 242 (n * 12) (i * 12 + 12) (G (fun j => B0 + 2 * j) Bf) := stepG r11 (by omega) (by omega) (G_at (k := 11) (by decide) rfl)
        have hR9 : RowUpTo ((((((((((((((((wr.setCell ⟨w.heap.size, i, none⟩ (.pointer (some ⟨wr.heap.size, 0, none⟩))).setCell ⟨PR, i * 12, none⟩ (.pointer none)).setCell ⟨PR, i * 12 + 1, none⟩ (.nilIface)).setCell ⟨PR, i * 12 + 2, none⟩ (.int .i32 0)).setCell ⟨PR, i * 12 + 3, none⟩ (.iface 234 (.pointer (some ⟨wr.heap.size, 0, none⟩)))).setCell ⟨PR, i * 12 + 4, none⟩ (.int .i32 0)).setCell ⟨PR, i * 12 + 5, none⟩ (.nilIface)).setCell ⟨PR, i * 12 + 6, none⟩ (.int .i32 0)).setCell ⟨PR, i * 12 + 7, none⟩ (.slice none 0 0)).setCell ⟨PR, i * 12 + 8, none⟩ (.int .i32 0)).setCell ⟨PR, i * 12 + 9, none⟩ (.int .i32 0)).setCell ⟨PR, i * 12 + 10, none⟩ (.int .u8 5)).setCell ⟨PR, i * 12 + 11, none⟩ (.int .u8 0))).alloc (.cells #[.float .f64 (floatOfInt .f64 i)] 236)).alloc (.cells #[.pointer none, .nilIface, .int .i32 0, .iface 234 (.pointer (some ⟨wr.heap.size, 0, none⟩)), .int .i32 0, .nilIface, .int .i32 0, .slice none 0 0, .int .i32 0, .int .i32 0, .int .u8 5, .int .u8 0] 242)) PR 242 (n * 12) ((i + 1) * 12) (G (fun j => B0 + 2 * j) Bf) := by rw [Nat.succ_mul]; exact allocG (allocG r12 _) _
        have hB9 : Below w.heap.size w ((((((((((((((((wr.setCell ⟨w.heap.size, i, none⟩ (.pointer (some ⟨wr.heap.size, 0, none⟩))).setCell ⟨PR, i * 12, none⟩ (.pointer none)).setCell ⟨PR, i * 12 + 1, none⟩ (.nilIface)).setCell ⟨PR, i * 12 + 2, none⟩ (.int .i32 0)).setCell ⟨PR, i * 12 + 3, none⟩ (.iface 234 (.pointer (some ⟨wr.heap.size, 0, none⟩)))).setCell ⟨PR, i * 12 + 4, none⟩ (.int .i32 0)).setCell ⟨PR, i * 12 + 5, none⟩ (.nilIface)).setCell ⟨PR, i * 12 + 6, none⟩ (.int .i32 0)).setCell ⟨PR, i * 12 + 7, none⟩ (.slice none 0 0)).setCell ⟨PR, i * 12 + 8, none⟩ (.int .i32 0)).setCell ⟨PR, i * 12 + 9, none⟩ (.int .i32 0)).setCell ⟨PR, i * 12 + 10, none⟩ (.int .u8 5)).setCell ⟨PR, i * 12 + 11, none⟩ (.int .u8 0))).alloc (.cells #[.float .f64 (floatOfInt .f64 i)] 236)).alloc (.cells #[.pointer none, .nilIface, .int .i32 0, .iface 234 (.pointer (some ⟨wr.heap.size, 0, none⟩)), .int .i32 0, .nilIface, .int .i32 0, .slice none 0 0, .int .i32 0, .int .i32 0, .int .u8 5, .int .u8 0] 242)) := ((((((((((((((HB.out.setCell (Nat.le_refl _) _).setCell hle _).setCell hle _).setCell hle _).setCell hle _).setCell hle _).setCell hle _).setCell hle _).setCell hle _).setCell hle _).setCell hle _).setCell hle _).setCell hle _).alloc (by simp; omega) _).alloc (by simp; omega) _
        have hZ9 : ((((((((((((((((wr.setCell ⟨w.heap.size, i, none⟩ (.pointer (some ⟨wr.heap.size, 0, none⟩))).setCell ⟨PR, i * 12, none⟩ (.pointer none)).setCell ⟨PR, i * 12 + 1, none⟩ (.nilIface)).setCell ⟨PR, i * 12 + 2, none⟩ (.int .i32 0)).setCell ⟨PR, i * 12 + 3, none⟩ (.iface 234 (.pointer (some ⟨wr.heap.size, 0, none⟩)))).setCell ⟨PR, i * 12 + 4, none⟩ (.int .i32 0)).setCell ⟨PR, i * 12 + 5, none⟩ (.nilIface)).setCell ⟨PR, i * 12 + 6, none⟩ (.int .i32 0)).setCell ⟨PR, i * 12 + 7, none⟩ (.slice none 0 0)).setCell ⟨PR, i * 12 + 8, none⟩ (.int .i32 0)).setCell ⟨PR, i * 12 + 9, none⟩ (.int .i32 0)).setCell ⟨PR, i * 12 + 10, none⟩ (.int .u8 5)).setCell ⟨PR, i * 12 + 11, none⟩ (.int .u8 0))).alloc (.cells #[.float .f64 (floatOfInt .f64 i)] 236)).alloc (.cells #[.pointer none, .nilIface, .int .i32 0, .iface 234 (.pointer (some ⟨wr.heap.size, 0, none⟩)), .int .i32 0, .nilIface, .int .i32 0, .slice none 0 0, .int .i32 0, .int .i32 0, .int .u8 5, .int .u8 0] 242)).heap.size = B0 + 2 * (i + 1) := by simp; have := HZ.out; omega
        have HH : Hid _ := Lib.hid (And.intro hZ9 (And.intro hP9 (And.intro hR9 hB9)))
        clear hval p0 hP9 r0 r1 r2 r3 r4 r5 r6 r7 r8 r9 r10 r11 r12 hR9 hB9 hZ9
        go_wp2_with fail
        go_roundw
        case rel => exact ⟨i + 1, by omega, by go_num, HH.out⟩
        case measure => simp [intOf]; omega
    · obtain rfl : i = n := by omega
      go_wp2_with fail
      go_returns
      obtain ⟨cs, r, hs, hc⟩ := HR.out
      refine ⟨_, PR, _, fun j => B0 + 2 * j, rfl, ⟨⟨_, RowAt.new wr _ _, rfl, rfl, rfl⟩, cs, r.alloc _, fun k hk j v hv => ?_⟩, HB.out.alloc HB.out.size _⟩
      have hj : j < 12 := (Array.getElem?_eq_some_iff.1 hv).1
      exact (hc (k * 12 + j) (by omega)).trans (congrArg some (G_at hj hv))

end Go.Proofs.YtfmfniddnlpkmaaDoor
