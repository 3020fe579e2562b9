import Derived.Test.YthmfjhadkmeldacFmtKit
import Derived.Test.YthmfjhadkmeldacFmtPsB
import Derived.StillTailTactics
namespace Go.Proofs.YthmfjhadkmeldacFmt
open Go.ChangeShapes Go.WideShapes Go.ChangeAt Go.RowKit
set_option linter.unusedVariables false
set_option maxRecDepth 100000
set_option maxHeartbeats 2000000

open Go.Extern
/-- The parser's order has been laid. -/
def SetOrd (p n : Nat) (S : Nat → Nat) (Lz : Nat → Int) (cs : Array Value) (w : World) (e : Ending) (w' : World) : Prop :=
  e = .returned (.tuple #[]) ∧ ∃ g, RowAt w' p (cs.setIfInBounds 177 (.slice (some ⟨g, 0, none⟩) n n)) 178 ∧ Rec w' g 180 2 n (ord S Lz) ∧ (∀ j es t, RowAt w j es t → t ≠ 178 → RowAt w' j es t) ∧ (∀ b0, b0 ≤ p → b0 ≤ w.heap.size → Below b0 w w')
set_option maxHeartbeats 4000000 in
theorem ord6 (p n R c' : Nat) (S : Nat → Nat) (Lz : Nat → Int) (cs : Array Value) (o1 : Option Addr) (c1 : Nat) (y : Value) (w : World) (hp : RowAt w p cs 178) (hy : cs[177]? = some y) (hn : n ≤ 4096)
    (hS : ∀ i, i < n → w.cell? ⟨R, i, none⟩ = some (ptr (S i))) (hL : ∀ i, i < n → ∃ x, o1 = some x ∧ w.cell? (x.add i) = some (.int .i32 (Lz i))) :
    Calls Tryf.prog 6 #[ptr p, .slice (some ⟨R, 0, none⟩) n c', .slice o1 n c1] w (SetOrd p n S Lz cs w) := by
  obtain ⟨i0, hi, hz0, hz1, hz2⟩ := info_parts info180
  have HS := Lib.hid hS
  have HL := Lib.hid hL
  have HP := Lib.hid (And.intro hp hy)
  clear hS hL hp hy
  unfold ptr
  go_enter Tryf.func6, Tryf.ntmps6
  go_wp2_with (at_make; refine wpList_make_full _ rfl _ _ 153 rfl w.heap.size 180 i0 _ 2 Tryf.underlying153 hi hz0 hz1 .i64 .i64 _ _ n rfl rfl rfl rfl (by rw [hz2]; omega) (by unfold maxLen; omega) (Nat.le_refl _) ?_)
  intro w1 hown hgrow
  have hb1 : Below w.heap.size w w1 := (Below.refl _ _).grown hgrow (Nat.le_refl _) (fun k hk => by cases hk)
  have hR1 : Hid (Rec w1 w.heap.size 180 2 n (fun i j => if i < 0 then ord S Lz i j else #[Value.pointer none, .int .i32 0][j]!)) := (Rec.made hown rfl).congr fun i hi j hj => by simp [Value.cells]
  clear hown hgrow hi hz0 hz1 hz2 i0
  go_wp2_with fail
  go_loopw [13, 7] (fun v13 _ wr => ∃ k : Nat, k ≤ n ∧ v13 = .int .i64 k ∧ Rec wr w.heap.size 180 2 n (fun i j => if i < k then ord S Lz i j else #[Value.pointer none, .int .i32 0][j]!) ∧ Below w.heap.size w wr) (fun v13 _ _ => n - (intOf v13).toNat)
  case atStart => exact ⟨0, Nat.zero_le _, rfl, hR1.out, hb1⟩
  case round =>
    obtain ⟨k, hk, rfl, hR, hb⟩ := hrel
    have HR := Lib.hid hR
    have HB := Lib.hid hb
    clear hR hR1 hb1 hb
    by_cases hlt : k < n
    · obtain ⟨x, rfl, hx⟩ := HL.out k hlt
      have hx' := later hx HB.out
      obtain ⟨lv, hlv⟩ : ∃ lv, Lz k = lv := ⟨_, rfl⟩
      obtain ⟨sv, hsv⟩ : ∃ sv, S k = sv := ⟨_, rfl⟩
      have hs := later (HS.out k hlt) HB.out
      rw [hlv] at hx'
      rw [hsv] at hs
      unfold ptr at hs
      have q0 := HR.out.cell (i := k) (j := 0) hlt (by decide)
      have q1 := HR.out.cell (i := k) (j := 1) hlt (by decide)
      have g0 := HR.out.frozen (k * 2)
      have g1 := HR.out.frozen (k * 2 + 1)
      have lg := HR.out.lt
      simp only [Nat.lt_irrefl, if_false, Nat.add_zero] at q0 q1
      have HV := Lib.hid (And.intro hlv hsv)
      clear hx hlv hsv
      have HSTEP : Hid (Rec ((wr.setCell ⟨w.heap.size, k * 2, none⟩ (.pointer (some ⟨sv, 0, none⟩))).setCell ⟨w.heap.size, k * 2 + 1, none⟩ (.int .i32 lv)) w.heap.size 180 2 n (fun i j => if i < k + 1 then ord S Lz i j else #[Value.pointer none, .int .i32 0][j]!)) :=
        ((HR.out.set0 hlt (by decide) _).set hlt (by decide) _).congr fun i hi j hj => by
          unfold upd2
          by_cases e : i = k
          · subst e
            rw [if_pos (show i < i + 1 by omega)]
            rcases (show j = 0 ∨ j = 1 by omega) with rfl | rfl
            · simp [ord, HV.out.2, ptr]
            · simp [ord, HV.out.1]
          · simp only [e, false_and, if_false]
            by_cases e2 : i < k
            · rw [if_pos e2, if_pos (by omega)]
            · rw [if_neg e2, if_neg (by omega)]
      go_wp2_with fail
      go_still_tail 13, (by kernel_rfl)
      go_wp2_with fail
      go_roundw
      case rel => exact ⟨k + 1, by omega, by go_num, HSTEP.out, below_drewN ((HB.out.setCell (Nat.le_refl _) _).setCell (Nat.le_refl _) _) 1⟩
      case measure => simp [intOf]; omega
    · obtain rfl : k = n := by omega
      have hrp := HP.out.1.below HB.out HP.out.1.lt
      have c177 := hrp.cellv HP.out.2
      have f177 := hrp.frozen 177
      have HPR := Lib.hid hrp
      clear hlt hrp
      go_wp2_with fail
      go_end0
      refine ⟨rfl, w.heap.size, HPR.out.set 177 _, ?_, fun j es t r ht => (RowAt.below r HB.out r.lt).set_other (row_ne (RowAt.below r HB.out r.lt) HPR.out ht) 177 _, fun b0 h1 h2 => (HB.out.mono h2).setCell h1 _⟩
      have hg := HR.out
      have hgp : w.heap.size ≠ p := by have := HP.out.1.lt; omega
      exact (hg.congr fun i hi j hj => by rw [if_pos hi]).set_other hgp 177 _

end Go.Proofs.YthmfjhadkmeldacFmt
