import Derived.Test.YtidicogmfpfibabFmtKit
import Derived.Test.YtidicogmfpfibabFmtMaA
namespace Go.Proofs.YtidicogmfpfibabFmt
open Go.ChangeShapes Go.WideShapes Go.ChangeAt Go.RowKit
set_option linter.unusedVariables false
set_option maxRecDepth 100000
set_option maxHeartbeats 2000000

theorem slice_from (s : ByteArray) (i : Nat) (h : i ≤ s.size) (W : World) : (Instr.slice 9 (.string s) (some (.int .i32 (i : Int))) none none).run Tryf.prog W = .ok (.string (s.extract i s.size)) W := by
  have h2 : (i : Int) ≤ (s.size : Int) := by omega
  simp [Instr.slice, run_underlying Tryf.underlying9, go_sem, h, h2]
theorem index_at (s : ByteArray) (i : Nat) (h : i < s.size) : ∃ c : Nat, c < 256 ∧ ∀ (v : Int) (W : World), v = (i : Int) → (Instr.index 9 (.string s) (.int .i32 v)).run Tryf.prog W = .ok (.int .u8 (c : Int)) W := by
  refine ⟨(s[i]'h).toNat, UInt8.toNat_lt _, fun v W hv => ?_⟩
  subst hv
  rw [run_index_string W 9 s .i32 i Tryf.underlying9, dif_pos ⟨by omega, by omega⟩]
  simp
/-- The library's decoder at this program. -/
def DecS : Prop := ∀ (s : ByteArray) (W : World), Lib.Utf8Tabs 0 1 W → Calls Tryf.prog 55 #[.string s] W fun e w' => e = .returned (.tuple #[.int .i32 (Lib.decodeGo s).1, .int .i64 (Lib.decodeGo s).2]) ∧ Below W.heap.size W w'
/-- What a scan from the text's beginning leaves. -/
def ScanIs (s : ByteArray) (p o t B st : Nat) (cs0 : Array Value) (W : World) (e : Ending) (W' : World) : Prop := e = .returned (.tuple #[]) ∧ ∃ cs off L ls, RowAt W' p cs t ∧ Agree cs0 cs o ∧ At cs (tkL o s off L ls 0 false) ∧ L ≤ off ∧ ls ≤ off ∧ st ≤ off ∧ off ≤ s.size ∧ Fp p W W' ∧ Below B W W'
/-- The tracker's row while the scan stands at i, its line and that line's start given. -/
structure Sd (s : ByteArray) (p o t B : Nat) (cs0 : Array Value) (W : World) (L ls : Nat) (cs : Array Value) (W' : World) : Prop where
  r : RowAt W' p cs t
  ag : Agree cs0 cs o
  tk : At cs (tkL o s 0 L ls 0 false)
  f : Fp p W W'
  b : Below B W W'
def Sc (s : ByteArray) (p o t B : Nat) (cs0 : Array Value) (W : World) (i : Nat) (W' : World) : Prop := ∃ cs L ls, Sd s p o t B cs0 W L ls cs W' ∧ L ≤ i ∧ ls ≤ i
section
variable {s : ByteArray} {p o t B : Nat} {cs0 : Array Value} {W w1 : World} {L ls i i' : Nat} {cs : Array Value}
theorem Sd.later {w2 : World} (h : Sd s p o t B cs0 W L ls cs w1) (hB : B ≤ p) (hb : Below w1.heap.size w1 w2) : Sd s p o t B cs0 W L ls cs w2 :=
  ⟨h.r.below hb h.r.lt, h.ag, h.tk, h.f.trans (Fp.below hb), h.b.trans (hb.mono (Nat.le_trans hB (Nat.le_of_lt h.r.lt)))⟩
theorem Sd.sc (h : Sd s p o t B cs0 W L ls cs w1) (h1 : L ≤ i) (h2 : ls ≤ i) : Sc s p o t B cs0 W i w1 := ⟨cs, L, ls, h, h1, h2⟩
theorem at_keep (h : At cs (tkL o s 0 L ls 0 false)) : (cs.setIfInBounds (o + 7) (.bool true)).setIfInBounds (o + 8) (.bool false) = cs := by
  rw [set_same (h.get 5 rfl), set_same (h.get 6 rfl)]
theorem Sd.nl0 (h : Sd s p o t B cs0 W L ls cs w1) (hB : B ≤ p) {v : Int} (hv : v = (i' : Int)) : Sd s p o t B cs0 W L i' (cs.setIfInBounds (o + 5) (.int .i32 i')) (((w1.setCell ⟨p, o + 7, none⟩ (.bool true)).setCell ⟨p, o + 8, none⟩ (.bool false)).setCell ⟨p, o + 5, none⟩ (.int .i32 v)) := by
  subst hv
  have ra := ((h.r.set (o + 7) (.bool true)).set (o + 8) (.bool false)).set (o + 5) (.int .i32 (i' : Int))
  rw [at_keep h.tk] at ra
  exact ⟨ra, h.ag.set (o + 5) (by omega) _, tk_start h.tk i', ((h.f.trans (Fp.set p _ _ _)).trans (Fp.set p _ _ _)).trans (Fp.set p _ _ _), ((h.b.setCell hB _).setCell hB _).setCell hB _⟩
theorem Sd.line (h : Sd s p o t B cs0 W L ls cs w1) (hB : B ≤ p) {v : Int} (hv : v = ((L + 1 : Nat) : Int)) : Sd s p o t B cs0 W (L + 1) ls (cs.setIfInBounds (o + 4) (.int .i32 (L + 1 : Nat))) (w1.setCell ⟨p, o + 4, none⟩ (.int .i32 v)) := by
  subst hv
  exact ⟨h.r.set _ _, h.ag.set (o + 4) (by omega) _, tk_line h.tk (L + 1), h.f.trans (Fp.set p _ _ _), h.b.setCell hB _⟩
theorem Sd.fin (h : Sd s p o t B cs0 W L ls cs w1) (hB : B ≤ p) {st : Nat} {v : Int} (hv : v = (i' : Int)) (h1 : L ≤ i') (h2 : ls ≤ i') (h3 : st ≤ i') (h4 : i' ≤ s.size) : ScanIs s p o t B st cs0 W (.returned (.tuple #[])) (w1.setCell ⟨p, o + 3, none⟩ (.int .i32 v)) := by
  subst hv
  exact ⟨rfl, _, i', L, ls, h.r.set _ _, h.ag.set (o + 3) (by omega) _, tk_off h.tk i', h1, h2, h3, h4, h.f.trans (Fp.set p _ _ _), h.b.setCell hB _⟩
end
theorem scan0 (s : ByteArray) (p o t B : Nat) (cs0 : Array Value) (W : World) (r : RowAt W p cs0 t) (hA : At cs0 (tkL o s 0 0 0 0 false)) : Calls Tryf.prog 53 #[.pointer (some ⟨p, o, none⟩), .int .i32 0] W (ScanIs s p o t B 0 cs0 W) := by
  have c0 := r.cellv (hA.get 0 rfl)
  have c3 := r.cellv (hA.get 1 rfl)
  have hp := r.lt
  have HH := Lib.hid (And.intro r hA)
  clear r hA
  go_enter Tryf.func53, Tryf.ntmps53
  go_wp2
  go_end0
  exact ⟨rfl, cs0, 0, 0, 0, HH.out.1, Agree.refl _ _, HH.out.2, by omega, by omega, by omega, by omega, Fp.refl _ _, Below.refl _ _⟩
set_option maxHeartbeats 16000000 in
theorem scan53 (hD : DecS) (s : ByteArray) (p o t B st : Nat) (cs0 : Array Value) (W : World) (r : RowAt W p cs0 t) (hA : At cs0 (tkL o s 0 0 0 0 false)) (hB : B ≤ p) (hT : TB B W) (h0 : 0 < st) (hst : st ≤ s.size) (hs : s.size ≤ 1048576) : Calls Tryf.prog 53 #[.pointer (some ⟨p, o, none⟩), .int .i32 st] W (ScanIs s p o t B st cs0 W) := by
  have c0 := r.cellv (hA.get 0 rfl)
  have c3 := r.cellv (hA.get 1 rfl)
  have hp := r.lt
  have h0' : (0 : Int) < (st : Int) := by omega
  have HH := Lib.hid (And.intro r hA)
  have HT := Lib.hid hT
  clear r hA hT
  go_enter Tryf.func53, Tryf.ntmps53
  go_wp2_with fail
  go_loopw [5, 6, 7] (fun v5 v6 v7 wr => ∃ i : Nat, v5 = .int .i32 i ∧ i < st ∧ Sc s p o t B cs0 W i wr) (fun v5 _ _ _ => s.size - (intOf v5).toNat)
  case atStart => exact ⟨0, rfl, h0, cs0, 0, 0, ⟨HH.out.1, Agree.refl _ _, HH.out.2, Fp.refl _ _, Below.refl _ _⟩, Nat.le_refl _, Nat.le_refl _⟩
  case round =>
    obtain ⟨i, rfl, hi, cs, L, ls, hd, hL, hls⟩ := hrel
    have hsl := slice_from s i (by omega)
    obtain ⟨d1, d2⟩ := dec_size s i (by omega)
    have hTw := HT.out.below hd.b
    have HR := Lib.hid hd
    clear hd c0 c3
    go_wp2_with fail
    refine (hD _ wr hTw.1).mono ?_
    rintro e1 w1 ⟨rfl, hb1⟩
    generalize (Lib.decodeGo (s.extract i s.size)).1 = rn
    generalize (Lib.decodeGo (s.extract i s.size)).2 = sz at d1 d2 ⊢
    have hd := HR.out.later hB hb1
    have hp1 := hd.r.lt
    have k4 := hd.r.cellv (hd.tk.get 2 rfl)
    have k3 := hd.r.cellv (hd.tk.get 1 rfl)
    have k5 := hd.r.cellv (hd.tk.get 3 rfl)
    have k7 := hd.r.cellv (hd.tk.get 5 rfl)
    have k8 := hd.r.cellv (hd.tk.get 6 rfl)
    have fz : ∀ j, w1.frozen? ⟨p, j, none⟩ = false := fun j => hd.r.frozen j
    have H1 := Lib.hid hd
    clear hd hb1 hTw HR hsl
    by_cases e10 : rn = 10
    · subst e10
      by_cases ei : i = 0
      · subst ei
        by_cases hend : st ≤ 0 + sz
        · have hend' : (st : Int) ≤ ((0 : Nat) : Int) + (sz : Int) := by omega
          go_wp2_with fail
          go_end0
          exact Sd.fin (Sd.line (Sd.nl0 H1.out hB (i' := 0 + sz) (by omega)) hB (by omega)) hB (i' := 0 + sz) (by omega) (by omega) (by omega) hend d2
        · have hend' : ¬ (st : Int) ≤ ((0 : Nat) : Int) + (sz : Int) := by omega
          go_wp2_with fail
          go_roundw
          case rel => exact ⟨0 + sz, by go_num, by omega, Sd.sc (Sd.line (Sd.nl0 H1.out hB (i' := 0 + sz) (by omega)) hB (by omega)) (by omega) (by omega)⟩
          case measure => simp [intOf]; omega
      · have ei' : ¬ (i : Int) = 0 := by omega
        have ei2 : (((i : Int) + (sz : Int)) == (sz : Int)) = false := beq_false_of_ne (by omega)
        obtain ⟨c, hc, hix⟩ := index_at s (i - 1) (by omega)
        have hix1 : ∀ W : World, (Instr.index 9 (.string s) (.int .i32 ((i : Int) - 1))).run Tryf.prog W = .ok (.int .u8 (c : Int)) W := fun W => hix _ W (by omega)
        have hix2 : ∀ W : World, (Instr.index 9 (.string s) (.int .i32 ((i : Int) + (sz : Int) - (sz : Int) - 1))).run Tryf.prog W = .ok (.int .u8 (c : Int)) W := fun W => hix _ W (by omega)
        clear hix
        by_cases ec : c = 13
        · subst ec
          by_cases hend : st ≤ i + sz
          · have hend' : (st : Int) ≤ (i : Int) + (sz : Int) := by omega
            go_wp2_with fail
            go_end0
            exact Sd.fin (Sd.nl0 H1.out hB (i' := i + sz) (by omega)) hB (i' := i + sz) (by omega) (by omega) (by omega) hend d2
          · have hend' : ¬ (st : Int) ≤ (i : Int) + (sz : Int) := by omega
            go_wp2_with fail
            go_roundw
            case rel => exact ⟨i + sz, by go_num, by omega, Sd.sc (Sd.nl0 H1.out hB (i' := i + sz) (by omega)) (by omega) (by omega)⟩
            case measure => simp [intOf]; omega
        · have ec' : ¬ (c : Int) = 13 := by omega
          have ec2 : ((c : Int) == 13) = false := beq_false_of_ne ec'
          have ec3 : ((c : Int) != 13) = true := by simp; omega
          by_cases hend : st ≤ i + sz
          · have hend' : (st : Int) ≤ (i : Int) + (sz : Int) := by omega
            go_wp2_with fail
            go_end0
            exact Sd.fin (Sd.line (Sd.nl0 H1.out hB (i' := i + sz) (by omega)) hB (by omega)) hB (i' := i + sz) (by omega) (by omega) (by omega) hend d2
          · have hend' : ¬ (st : Int) ≤ (i : Int) + (sz : Int) := by omega
            go_wp2_with fail
            go_roundw
            case rel => exact ⟨i + sz, by go_num, by omega, Sd.sc (Sd.line (Sd.nl0 H1.out hB (i' := i + sz) (by omega)) hB (by omega)) (by omega) (by omega)⟩
            case measure => simp [intOf]; omega
    have f10 : ((rn : Int) == 10) = false := beq_false_of_ne (by omega)
    have g10 : ¬ (rn : Int) = 10 := by omega
    by_cases e13 : rn = 13
    · subst e13
      by_cases hend : st ≤ i + sz
      · have hend' : (st : Int) ≤ (i : Int) + (sz : Int) := by omega
        go_wp2_with fail
        go_end0
        exact Sd.fin (Sd.line (Sd.nl0 H1.out hB (i' := i + sz) (by omega)) hB (by omega)) hB (i' := i + sz) (by omega) (by omega) (by omega) hend d2
      · have hend' : ¬ (st : Int) ≤ (i : Int) + (sz : Int) := by omega
        go_wp2_with fail
        go_roundw
        case rel => exact ⟨i + sz, by go_num, by omega, Sd.sc (Sd.line (Sd.nl0 H1.out hB (i' := i + sz) (by omega)) hB (by omega)) (by omega) (by omega)⟩
        case measure => simp [intOf]; omega
    have f13 : ((rn : Int) == 13) = false := beq_false_of_ne (by omega)
    have g13 : ¬ (rn : Int) = 13 := by omega
    by_cases e8232 : rn = 8232
    · subst e8232
      by_cases hend : st ≤ i + sz
      · have hend' : (st : Int) ≤ (i : Int) + (sz : Int) := by omega
        go_wp2_with fail
        go_end0
        exact Sd.fin (Sd.line (Sd.nl0 H1.out hB (i' := i + sz) (by omega)) hB (by omega)) hB (i' := i + sz) (by omega) (by omega) (by omega) hend d2
      · have hend' : ¬ (st : Int) ≤ (i : Int) + (sz : Int) := by omega
        go_wp2_with fail
        go_roundw
        case rel => exact ⟨i + sz, by go_num, by omega, Sd.sc (Sd.line (Sd.nl0 H1.out hB (i' := i + sz) (by omega)) hB (by omega)) (by omega) (by omega)⟩
        case measure => simp [intOf]; omega
    have f8232 : ((rn : Int) == 8232) = false := beq_false_of_ne (by omega)
    have g8232 : ¬ (rn : Int) = 8232 := by omega
    by_cases e8233 : rn = 8233
    · subst e8233
      by_cases hend : st ≤ i + sz
      · have hend' : (st : Int) ≤ (i : Int) + (sz : Int) := by omega
        go_wp2_with fail
        go_end0
        exact Sd.fin (Sd.line (Sd.nl0 H1.out hB (i' := i + sz) (by omega)) hB (by omega)) hB (i' := i + sz) (by omega) (by omega) (by omega) hend d2
      · have hend' : ¬ (st : Int) ≤ (i : Int) + (sz : Int) := by omega
        go_wp2_with fail
        go_roundw
        case rel => exact ⟨i + sz, by go_num, by omega, Sd.sc (Sd.line (Sd.nl0 H1.out hB (i' := i + sz) (by omega)) hB (by omega)) (by omega) (by omega)⟩
        case measure => simp [intOf]; omega
    have f8233 : ((rn : Int) == 8233) = false := beq_false_of_ne (by omega)
    have g8233 : ¬ (rn : Int) = 8233 := by omega
    by_cases hend : st ≤ i + sz
    · have hend' : (st : Int) ≤ (i : Int) + (sz : Int) := by omega
      go_wp2_with fail
      go_end0
      exact Sd.fin (H1.out) hB (i' := i + sz) (by omega) (by omega) (by omega) hend d2
    · have hend' : ¬ (st : Int) ≤ (i : Int) + (sz : Int) := by omega
      go_wp2_with fail
      go_roundw
      case rel => exact ⟨i + sz, by go_num, by omega, Sd.sc (H1.out) (by omega) (by omega)⟩
      case measure => simp [intOf]; omega

end Go.Proofs.YtidicogmfpfibabFmt
