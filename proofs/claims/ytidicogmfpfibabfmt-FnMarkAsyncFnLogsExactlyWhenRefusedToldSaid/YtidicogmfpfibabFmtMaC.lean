import Derived.Test.YtidicogmfpfibabFmtKit
import Derived.Test.YtidicogmfpfibabFmtMaB
namespace Go.Proofs.YtidicogmfpfibabFmt
open Go.ChangeShapes Go.WideShapes Go.ChangeAt Go.RowKit
set_option linter.unusedVariables false
set_option maxRecDepth 100000
set_option maxHeartbeats 2000000

/-- What the search for a line and a column leaves. -/
def CompIs (s : ByteArray) (p o t B st : Nat) (cs0 : Array Value) (W : World) (e : Ending) (W' : World) : Prop := ∃ cs off L ls le, e = .returned (.tuple #[.int .i64 (L : Nat), .int .i64 ((st : Int) - (ls : Nat)), .int .i64 (ls : Nat), .int .i64 (le : Nat)]) ∧ RowAt W' p cs t ∧ Agree cs0 cs o ∧ At cs (tkL o s off L ls le true) ∧ ls ≤ le ∧ le ≤ s.size ∧ L ≤ s.size ∧ Fp p W W' ∧ Below B W W'
theorem scanAny (hD : DecS) (s : ByteArray) (p o t B st : Nat) (cs0 : Array Value) (W : World) (r : RowAt W p cs0 t) (hA : At cs0 (tkL o s 0 0 0 0 false)) (hB : B ≤ p) (hT : TB B W) (hst : st ≤ s.size) (hs : s.size ≤ 1048576) : Calls Tryf.prog 53 #[.pointer (some ⟨p, o, none⟩), .int .i32 st] W (ScanIs s p o t B st cs0 W) := by
  by_cases h0 : st = 0
  · subst h0; exact scan0 s p o t B cs0 W r hA
  · exact scan53 hD s p o t B st cs0 W r hA hB hT (by omega) hst hs
set_option maxHeartbeats 16000000 in
theorem comp52 (hD : DecS) (s : ByteArray) (p o t B st : Nat) (cs0 : Array Value) (W : World) (r : RowAt W p cs0 t) (hA : At cs0 (tkL o s 0 0 0 0 false)) (hB : B ≤ p) (hT : TB B W) (hst : st ≤ s.size) (hs : s.size ≤ 1048576) : Calls Tryf.prog 52 #[.pointer (some ⟨p, o, none⟩), .int .i64 st] W (CompIs s p o t B st cs0 W) := by
  have hp := r.lt
  have HH := Lib.hid (And.intro r (And.intro hA hT))
  clear r hA hT
  go_enter Tryf.func52, Tryf.ntmps52
  go_wp2_with fail
  refine (scanAny hD s p o t B st cs0 W HH.out.1 HH.out.2.1 hB HH.out.2.2 hst hs).mono ?_
  rintro e1 w1 ⟨rfl, cs, off, L, ls, r1, ag, tk, hL, hls, hso, hon, hF, hb⟩
  have c0 := r1.cellv (tk.get 0 rfl)
  have c3 := r1.cellv (tk.get 1 rfl)
  have c7 := r1.cellv (tk.get 5 rfl)
  have c8 := r1.cellv (tk.get 6 rfl)
  have hp1 := r1.lt
  have HT := Lib.hid (HH.out.2.2.below hb)
  have H1 := Lib.hid (And.intro r1 (And.intro ag (And.intro tk (And.intro hF hb))))
  clear r1 ag tk hF hb HH
  go_wp2_with fail
  go_loopw [13, 15, 16] (fun v13 v15 v16 wr => ∃ i : Nat, v13 = .int .i32 i ∧ off ≤ i ∧ i ≤ s.size ∧ Below w1.heap.size w1 wr) (fun v13 _ _ _ => s.size - (intOf v13).toNat)
  case atStart => exact ⟨off, rfl, Nat.le_refl _, hon, Below.refl _ _⟩
  case round =>
    obtain ⟨i, rfl, hoi, hin, hbw⟩ := hrel
    have RW := Lib.hid (H1.out.1.below hbw H1.out.1.lt)
    have BW := Lib.hid (H1.out.2.2.2.2.trans (hbw.mono (Nat.le_trans hB (Nat.le_of_lt H1.out.1.lt))))
    have FW := Lib.hid (H1.out.2.2.2.1.trans (Fp.below hbw))
    by_cases hlt : i < s.size
    · have hsl := slice_from s i (by omega)
      obtain ⟨d1, d2⟩ := dec_size s i hlt
      have hTw := HT.out.below (hbw.mono (Nat.le_trans hB (Nat.le_of_lt H1.out.1.lt)))
      have HBW := Lib.hid hbw
      clear hbw c0 c3 c7 c8
      go_wp2_with fail
      refine (hD _ wr hTw.1).mono ?_
      rintro e2 w2 ⟨rfl, hb2⟩
      generalize (Lib.decodeGo (s.extract i s.size)).1 = rn
      generalize (Lib.decodeGo (s.extract i s.size)).2 = sz at d1 d2 ⊢
      have RX := Lib.hid ((RW.out).below hb2 (RW.out).lt)
      have BX := Lib.hid ((BW.out).trans (hb2.mono (Nat.le_trans hB (Nat.le_of_lt (RW.out).lt))))
      have FX := Lib.hid ((FW.out).trans (Fp.below hb2))
      have HBX := Lib.hid ((HBW.out).trans (hb2.mono (HBW.out).size))
      clear hb2 hTw hsl
      by_cases e10 : rn = 10
      · subst e10
        have r2 := (RX.out).set (o + 8) (.bool true)
        have r3 := r2.set (o + 6) (.int .i32 (i : Int))
        have tk3 := tk_end H1.out.2.2.1 i
        have ag3 := (H1.out.2.1.set (o + 8) (by omega) (.bool true)).set (o + 6) (by omega) (.int .i32 (i : Int))
        have kz8 := (RX.out).cellv (H1.out.2.2.1.get 6 rfl)
        have kz6 := (RX.out).cellv (H1.out.2.2.1.get 4 rfl)
        have fz : ∀ j, w2.frozen? ⟨p, j, none⟩ = false := fun j => (RX.out).frozen j
        have hpw := (RX.out).lt
        have b3 : Below B W ((w2.setCell ⟨p, o + 8, none⟩ (.bool true)).setCell ⟨p, o + 6, none⟩ (.int .i32 (i : Int))) := ((BX.out).setCell hB _).setCell hB _
        have f3 : Fp p W ((w2.setCell ⟨p, o + 8, none⟩ (.bool true)).setCell ⟨p, o + 6, none⟩ (.int .i32 (i : Int))) := ((FX.out).trans (Fp.set p _ _ _)).trans (Fp.set p _ _ _)
        have HZ := Lib.hid (And.intro r3 (And.intro ag3 (And.intro tk3 (And.intro f3 b3))))
        clear r2 r3 tk3 ag3 b3 f3
        go_upto_region 21 with (fail)
        obtain ⟨w4, hw4⟩ : ∃ w4, w4 = (w2.setCell ⟨p, o + 8, none⟩ (.bool true)).setCell ⟨p, o + 6, none⟩ (.int .i32 (i : Int)) := ⟨_, rfl⟩
        have HZ' := HZ.out
        rw [← hw4] at HZ' ⊢
        clear hw4 HZ kz8 kz6 fz hpw
        have c4 := HZ'.1.cellv (HZ'.2.2.1.get 2 rfl)
        have c5 := HZ'.1.cellv (HZ'.2.2.1.get 3 rfl)
        have c6 := HZ'.1.cellv (HZ'.2.2.1.get 4 rfl)
        have hp4 := HZ'.1.lt
        have H4 := Lib.hid HZ'
        clear HZ'
        go_quiet (fail)
        go_wp2_with fail
        refine bodyPost_ret (v := .tuple #[.int .i64 (L : Nat), .int .i64 ((st : Int) - (ls : Nat)), .int .i64 (ls : Nat), .int .i64 (i : Nat)]) (by simp [results, Tryf.results52, go_sem]) rfl ?_
        exact ⟨_, off, L, ls, i, rfl, H4.out.1.drewN _, H4.out.2.1, H4.out.2.2.1, by omega, hin, by omega, fun g cs t hg r => (H4.out.2.2.2.1 g cs t hg r).drewN _, below_drewN H4.out.2.2.2.2 _⟩
      have f10 : ((rn : Int) == 10) = false := beq_false_of_ne (by omega)
      have g10 : ¬ (rn : Int) = 10 := by omega
      by_cases e13 : rn = 13
      · subst e13
        have r2 := (RX.out).set (o + 8) (.bool true)
        have r3 := r2.set (o + 6) (.int .i32 (i : Int))
        have tk3 := tk_end H1.out.2.2.1 i
        have ag3 := (H1.out.2.1.set (o + 8) (by omega) (.bool true)).set (o + 6) (by omega) (.int .i32 (i : Int))
        have kz8 := (RX.out).cellv (H1.out.2.2.1.get 6 rfl)
        have kz6 := (RX.out).cellv (H1.out.2.2.1.get 4 rfl)
        have fz : ∀ j, w2.frozen? ⟨p, j, none⟩ = false := fun j => (RX.out).frozen j
        have hpw := (RX.out).lt
        have b3 : Below B W ((w2.setCell ⟨p, o + 8, none⟩ (.bool true)).setCell ⟨p, o + 6, none⟩ (.int .i32 (i : Int))) := ((BX.out).setCell hB _).setCell hB _
        have f3 : Fp p W ((w2.setCell ⟨p, o + 8, none⟩ (.bool true)).setCell ⟨p, o + 6, none⟩ (.int .i32 (i : Int))) := ((FX.out).trans (Fp.set p _ _ _)).trans (Fp.set p _ _ _)
        have HZ := Lib.hid (And.intro r3 (And.intro ag3 (And.intro tk3 (And.intro f3 b3))))
        clear r2 r3 tk3 ag3 b3 f3
        go_upto_region 21 with (fail)
        obtain ⟨w4, hw4⟩ : ∃ w4, w4 = (w2.setCell ⟨p, o + 8, none⟩ (.bool true)).setCell ⟨p, o + 6, none⟩ (.int .i32 (i : Int)) := ⟨_, rfl⟩
        have HZ' := HZ.out
        rw [← hw4] at HZ' ⊢
        clear hw4 HZ kz8 kz6 fz hpw
        have c4 := HZ'.1.cellv (HZ'.2.2.1.get 2 rfl)
        have c5 := HZ'.1.cellv (HZ'.2.2.1.get 3 rfl)
        have c6 := HZ'.1.cellv (HZ'.2.2.1.get 4 rfl)
        have hp4 := HZ'.1.lt
        have H4 := Lib.hid HZ'
        clear HZ'
        go_quiet (fail)
        go_wp2_with fail
        refine bodyPost_ret (v := .tuple #[.int .i64 (L : Nat), .int .i64 ((st : Int) - (ls : Nat)), .int .i64 (ls : Nat), .int .i64 (i : Nat)]) (by simp [results, Tryf.results52, go_sem]) rfl ?_
        exact ⟨_, off, L, ls, i, rfl, H4.out.1.drewN _, H4.out.2.1, H4.out.2.2.1, by omega, hin, by omega, fun g cs t hg r => (H4.out.2.2.2.1 g cs t hg r).drewN _, below_drewN H4.out.2.2.2.2 _⟩
      have f13 : ((rn : Int) == 13) = false := beq_false_of_ne (by omega)
      have g13 : ¬ (rn : Int) = 13 := by omega
      by_cases e8232 : rn = 8232
      · subst e8232
        have r2 := (RX.out).set (o + 8) (.bool true)
        have r3 := r2.set (o + 6) (.int .i32 (i : Int))
        have tk3 := tk_end H1.out.2.2.1 i
        have ag3 := (H1.out.2.1.set (o + 8) (by omega) (.bool true)).set (o + 6) (by omega) (.int .i32 (i : Int))
        have kz8 := (RX.out).cellv (H1.out.2.2.1.get 6 rfl)
        have kz6 := (RX.out).cellv (H1.out.2.2.1.get 4 rfl)
        have fz : ∀ j, w2.frozen? ⟨p, j, none⟩ = false := fun j => (RX.out).frozen j
        have hpw := (RX.out).lt
        have b3 : Below B W ((w2.setCell ⟨p, o + 8, none⟩ (.bool true)).setCell ⟨p, o + 6, none⟩ (.int .i32 (i : Int))) := ((BX.out).setCell hB _).setCell hB _
        have f3 : Fp p W ((w2.setCell ⟨p, o + 8, none⟩ (.bool true)).setCell ⟨p, o + 6, none⟩ (.int .i32 (i : Int))) := ((FX.out).trans (Fp.set p _ _ _)).trans (Fp.set p _ _ _)
        have HZ := Lib.hid (And.intro r3 (And.intro ag3 (And.intro tk3 (And.intro f3 b3))))
        clear r2 r3 tk3 ag3 b3 f3
        go_upto_region 21 with (fail)
        obtain ⟨w4, hw4⟩ : ∃ w4, w4 = (w2.setCell ⟨p, o + 8, none⟩ (.bool true)).setCell ⟨p, o + 6, none⟩ (.int .i32 (i : Int)) := ⟨_, rfl⟩
        have HZ' := HZ.out
        rw [← hw4] at HZ' ⊢
        clear hw4 HZ kz8 kz6 fz hpw
        have c4 := HZ'.1.cellv (HZ'.2.2.1.get 2 rfl)
        have c5 := HZ'.1.cellv (HZ'.2.2.1.get 3 rfl)
        have c6 := HZ'.1.cellv (HZ'.2.2.1.get 4 rfl)
        have hp4 := HZ'.1.lt
        have H4 := Lib.hid HZ'
        clear HZ'
        go_quiet (fail)
        go_wp2_with fail
        refine bodyPost_ret (v := .tuple #[.int .i64 (L : Nat), .int .i64 ((st : Int) - (ls : Nat)), .int .i64 (ls : Nat), .int .i64 (i : Nat)]) (by simp [results, Tryf.results52, go_sem]) rfl ?_
        exact ⟨_, off, L, ls, i, rfl, H4.out.1.drewN _, H4.out.2.1, H4.out.2.2.1, by omega, hin, by omega, fun g cs t hg r => (H4.out.2.2.2.1 g cs t hg r).drewN _, below_drewN H4.out.2.2.2.2 _⟩
      have f8232 : ((rn : Int) == 8232) = false := beq_false_of_ne (by omega)
      have g8232 : ¬ (rn : Int) = 8232 := by omega
      by_cases e8233 : rn = 8233
      · subst e8233
        have r2 := (RX.out).set (o + 8) (.bool true)
        have r3 := r2.set (o + 6) (.int .i32 (i : Int))
        have tk3 := tk_end H1.out.2.2.1 i
        have ag3 := (H1.out.2.1.set (o + 8) (by omega) (.bool true)).set (o + 6) (by omega) (.int .i32 (i : Int))
        have kz8 := (RX.out).cellv (H1.out.2.2.1.get 6 rfl)
        have kz6 := (RX.out).cellv (H1.out.2.2.1.get 4 rfl)
        have fz : ∀ j, w2.frozen? ⟨p, j, none⟩ = false := fun j => (RX.out).frozen j
        have hpw := (RX.out).lt
        have b3 : Below B W ((w2.setCell ⟨p, o + 8, none⟩ (.bool true)).setCell ⟨p, o + 6, none⟩ (.int .i32 (i : Int))) := ((BX.out).setCell hB _).setCell hB _
        have f3 : Fp p W ((w2.setCell ⟨p, o + 8, none⟩ (.bool true)).setCell ⟨p, o + 6, none⟩ (.int .i32 (i : Int))) := ((FX.out).trans (Fp.set p _ _ _)).trans (Fp.set p _ _ _)
        have HZ := Lib.hid (And.intro r3 (And.intro ag3 (And.intro tk3 (And.intro f3 b3))))
        clear r2 r3 tk3 ag3 b3 f3
        go_upto_region 21 with (fail)
        obtain ⟨w4, hw4⟩ : ∃ w4, w4 = (w2.setCell ⟨p, o + 8, none⟩ (.bool true)).setCell ⟨p, o + 6, none⟩ (.int .i32 (i : Int)) := ⟨_, rfl⟩
        have HZ' := HZ.out
        rw [← hw4] at HZ' ⊢
        clear hw4 HZ kz8 kz6 fz hpw
        have c4 := HZ'.1.cellv (HZ'.2.2.1.get 2 rfl)
        have c5 := HZ'.1.cellv (HZ'.2.2.1.get 3 rfl)
        have c6 := HZ'.1.cellv (HZ'.2.2.1.get 4 rfl)
        have hp4 := HZ'.1.lt
        have H4 := Lib.hid HZ'
        clear HZ'
        go_quiet (fail)
        go_wp2_with fail
        refine bodyPost_ret (v := .tuple #[.int .i64 (L : Nat), .int .i64 ((st : Int) - (ls : Nat)), .int .i64 (ls : Nat), .int .i64 (i : Nat)]) (by simp [results, Tryf.results52, go_sem]) rfl ?_
        exact ⟨_, off, L, ls, i, rfl, H4.out.1.drewN _, H4.out.2.1, H4.out.2.2.1, by omega, hin, by omega, fun g cs t hg r => (H4.out.2.2.2.1 g cs t hg r).drewN _, below_drewN H4.out.2.2.2.2 _⟩
      have f8233 : ((rn : Int) == 8233) = false := beq_false_of_ne (by omega)
      have g8233 : ¬ (rn : Int) = 8233 := by omega
      go_wp2_with fail
      go_roundw
      case rel => exact ⟨i + sz, by go_num, by omega, d2, HBX.out⟩
      case measure => simp [intOf]; omega
    · have hlt' : ¬ (i : Int) < (s.size : Int) := by omega
      clear c0 c3 c7 c8
      have r2 := (RW.out).set (o + 8) (.bool true)
      have r3 := r2.set (o + 6) (.int .i32 (i : Int))
      have tk3 := tk_end H1.out.2.2.1 i
      have ag3 := (H1.out.2.1.set (o + 8) (by omega) (.bool true)).set (o + 6) (by omega) (.int .i32 (i : Int))
      have kz8 := (RW.out).cellv (H1.out.2.2.1.get 6 rfl)
      have kz6 := (RW.out).cellv (H1.out.2.2.1.get 4 rfl)
      have fz : ∀ j, wr.frozen? ⟨p, j, none⟩ = false := fun j => (RW.out).frozen j
      have hpw := (RW.out).lt
      have b3 : Below B W ((wr.setCell ⟨p, o + 8, none⟩ (.bool true)).setCell ⟨p, o + 6, none⟩ (.int .i32 (i : Int))) := ((BW.out).setCell hB _).setCell hB _
      have f3 : Fp p W ((wr.setCell ⟨p, o + 8, none⟩ (.bool true)).setCell ⟨p, o + 6, none⟩ (.int .i32 (i : Int))) := ((FW.out).trans (Fp.set p _ _ _)).trans (Fp.set p _ _ _)
      have HZ := Lib.hid (And.intro r3 (And.intro ag3 (And.intro tk3 (And.intro f3 b3))))
      clear r2 r3 tk3 ag3 b3 f3
      go_upto_region 21 with (fail)
      obtain ⟨w4, hw4⟩ : ∃ w4, w4 = (wr.setCell ⟨p, o + 8, none⟩ (.bool true)).setCell ⟨p, o + 6, none⟩ (.int .i32 (i : Int)) := ⟨_, rfl⟩
      have HZ' := HZ.out
      rw [← hw4] at HZ' ⊢
      clear hw4 HZ kz8 kz6 fz hpw
      have c4 := HZ'.1.cellv (HZ'.2.2.1.get 2 rfl)
      have c5 := HZ'.1.cellv (HZ'.2.2.1.get 3 rfl)
      have c6 := HZ'.1.cellv (HZ'.2.2.1.get 4 rfl)
      have hp4 := HZ'.1.lt
      have H4 := Lib.hid HZ'
      clear HZ'
      go_quiet (fail)
      go_wp2_with fail
      refine bodyPost_ret (v := .tuple #[.int .i64 (L : Nat), .int .i64 ((st : Int) - (ls : Nat)), .int .i64 (ls : Nat), .int .i64 (i : Nat)]) (by simp [results, Tryf.results52, go_sem]) rfl ?_
      exact ⟨_, off, L, ls, i, rfl, H4.out.1.drewN _, H4.out.2.1, H4.out.2.2.1, by omega, hin, by omega, fun g cs t hg r => (H4.out.2.2.2.1 g cs t hg r).drewN _, below_drewN H4.out.2.2.2.2 _⟩

end Go.Proofs.YtidicogmfpfibabFmt
