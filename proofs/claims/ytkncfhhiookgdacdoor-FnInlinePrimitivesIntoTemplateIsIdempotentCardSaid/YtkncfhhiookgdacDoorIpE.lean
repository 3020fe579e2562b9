import Derived.Test.YtkncfhhiookgdacDoorKit
import Derived.Test.YtkncfhhiookgdacDoorAs
import Derived.Test.YtkncfhhiookgdacDoorIpD
import Derived.Deep.RegionLaw
namespace Go.Proofs.YtkncfhhiookgdacDoor
open Go.ChangeShapes Go.WideShapes Go.ChangeAt Go.RowKit
set_option linter.unusedVariables false
set_option maxRecDepth 100000
set_option maxHeartbeats 2000000

open Go.Extern
theorem info22 : (Tryd.prog.info? 22).map (fun i => (i.zero, i.size, i.bytes)) = some (some (.slice none 0 0), 1, 24) := by kernel_rfl
theorem info2 : (Tryd.prog.info? 2).map (fun i => (i.zero, i.size, i.bytes)) = some (some (.int .i64 0), 1, 8) := by kernel_rfl
/-- The parts' identifiers. -/
def Refs (w : World) (n : Nat) (D : Nat → Value) (q : Nat → Nat) (r : Nat → Int) : Prop := ∀ i, i < n → D i = .iface 54 (ptr (q i)) ∧ w.cell? ⟨q i, 1, none⟩ = some (.int .u32 (r i)) ∧ 0 ≤ r i ∧ r i ≤ 4294967295
theorem Parts.refs {w : World} {b0 pr N n M : Nat} {D T : Nat → Value} {S : Nat → Bool} (h : Parts w b0 pr N n D T S M) (hS : ∀ i, i < n → S i = false) : ∃ q r, Refs w n D q r := by
  have : ∀ i, ∃ p : Nat × Int, i < n → D i = .iface 54 (ptr p.1) ∧ w.cell? ⟨p.1, 1, none⟩ = some (.int .u32 p.2) ∧ 0 ≤ p.2 ∧ p.2 ≤ 4294967295 := fun i => by
    by_cases hi : i < n
    · rcases h.dat i hi with ⟨e, _⟩ | ⟨_, q, a, b, x, y, z, h1, _, h3, h4, h5⟩
      · rw [hS i hi] at e; cases e
      · exact ⟨(q, b), fun _ => ⟨h1, h3.cellv rfl, h4, h5⟩⟩
    · exact ⟨(0, 0), fun h => absurd h hi⟩
  exact ⟨fun i => (Classical.choose (this i)).1, fun i => (Classical.choose (this i)).2, fun i hi => Classical.choose_spec (this i) hi⟩
set_option maxHeartbeats 8000000 in
theorem shape11 (t pr N n b0 M : Nat) (hd : Value) (D T : Nat → Value) (S : Nat → Bool) (q : Nat → Nat) (r : Nat → Int) (x1 x2 x5 x6 x7 x8 : Value) (oh : Option Addr) (lh ch : Nat) (w : World)
    (hT : RowAt w t #[.nilIface, x1, x2, .slice oh lh ch, .slice (some ⟨pr, 0, none⟩) n N, x5, x6, x7, x8] 46) (hP : Parts w b0 pr N n D T S M) (hR : Refs w n D q r) (hn : n ≤ 4096) :
    Calls Tryd.prog 11 #[ptr t] w fun e w' => ∃ R1 R2, e = .returned (.tuple #[.bool false, .slice oh lh ch, .slice (some ⟨R1, 0, none⟩) n n, .slice (some ⟨R2, 0, none⟩) n n]) ∧ Cells w' R1 22 n T ∧ Cells w' R2 2 n (fun i => .int .i64 (r i)) ∧ Below w.heap.size w w' := by
  obtain ⟨i0, hi, hz0, hz1, hz2⟩ := info_parts info22
  obtain ⟨i1, gi, gz0, gz1, gz2⟩ := info_parts info2
  have HT := Lib.hid hT
  have HP := Lib.hid (And.intro hP hR)
  have t4 := hT.cellv (j := 4) (v := .slice (some ⟨pr, 0, none⟩) n N) rfl
  have lt := hT.lt
  clear hT hP hR
  unfold ptr
  go_enter Tryd.func11, Tryd.ntmps11
  go_wp2_with (at_make; refine wpList_make_full _ rfl _ _ 24 rfl w.heap.size 22 i0 _ 1 Tryd.underlying24 hi hz0 hz1 .i64 .i64 _ _ n rfl rfl rfl rfl (by rw [hz2]; omega) (by unfold maxLen; omega) (Nat.le_refl _) ?_)
  intro w1 hown hgrow
  have b1 : Below w.heap.size w w1 := (Below.refl _ _).grown hgrow (Nat.le_refl _) (fun k hk => by cases hk)
  have l1 : Cells w1 w.heap.size 22 n (fun _ => .slice none 0 0) := by
    have h' : w1.ownsRow w.heap.size 22 1 (.slice (some ⟨w.heap.size, 0, none⟩) n n) n (madeCells #[.slice none 0 0] (n * 1)).toList := by simpa using hown
    have := Cells.made h'
    rw [Nat.mul_one] at this
    exact this.congr fun i _ => by simp [Nat.mod_one]
  obtain ⟨R1, hR1⟩ : ∃ R1, R1 = w.heap.size := ⟨_, rfl⟩
  rw [← hR1] at l1 ⊢
  have t4' := later t4 b1
  have lt' := Nat.lt_of_lt_of_le lt b1.size
  have z1 := b1.size
  have H1 := Lib.hid (And.intro b1 (And.intro l1 (show w.heap.size ≤ R1 by omega)))
  clear hown hgrow b1 l1 t4 lt hR1
  go_wp2_with (at_make; refine wpList_make_full _ rfl _ _ 41 rfl w1.heap.size 2 i1 _ 1 Tryd.underlying41 gi gz0 gz1 .i64 .i64 _ _ n rfl rfl rfl rfl (by rw [gz2]; omega) (by unfold maxLen; omega) (Nat.le_refl _) ?_)
  intro w2 hown hgrow
  have b2 : Below w1.heap.size w1 w2 := (Below.refl _ _).grown hgrow (Nat.le_refl _) (fun k hk => by cases hk)
  have l2 : Cells w2 w1.heap.size 2 n (fun _ => .int .i64 0) := by
    have h' : w2.ownsRow w1.heap.size 2 1 (.slice (some ⟨w1.heap.size, 0, none⟩) n n) n (madeCells #[.int .i64 0] (n * 1)).toList := by simpa using hown
    have := Cells.made h'
    rw [Nat.mul_one] at this
    exact this.congr fun i _ => by simp [Nat.mod_one]
  obtain ⟨R2, hR2⟩ : ∃ R2, R2 = w1.heap.size := ⟨_, rfl⟩
  rw [← hR2] at l2 ⊢
  have H2 := Lib.hid (And.intro (H1.out.1.trans (b2.mono z1)) (And.intro (H1.out.2.1.below b2 H1.out.2.1.lt) (And.intro l2 (show w.heap.size ≤ R2 by omega))))
  clear hown hgrow b2 l2 hR2 t4' lt'
  go_wp2_with fail
  go_loopw [8, 9, 10] (fun v8 _ _ wr => ∃ k : Nat, k ≤ n ∧ v8 = .int .i64 k ∧ Below w.heap.size w wr ∧ Cells wr R1 22 n (fun i => if i < k then T i else .slice none 0 0) ∧ Cells wr R2 2 n (fun i => if i < k then .int .i64 (r i) else .int .i64 0)) (fun v8 _ _ _ => n - (intOf v8).toNat)
  case atStart => exact ⟨0, Nat.zero_le _, rfl, H2.out.1, H2.out.2.1.congr fun i _ => by simp, H2.out.2.2.1.congr fun i _ => by simp⟩
  case round =>
    obtain ⟨k, hk, rfl, hb, c1, c2⟩ := hrel
    have HB := Lib.hid hb
    have HC := Lib.hid (And.intro c1 c2)
    have zr := hb.size
    have tr := HT.out.below hb HT.out.lt
    have t0 := tr.cellv (j := 0) (v := .nilIface) rfl
    have t3 := tr.cellv (j := 3) (v := .slice oh lh ch) rfl
    have t4 := tr.cellv (j := 4) (v := .slice (some ⟨pr, 0, none⟩) n N) rfl
    have lt := tr.lt
    have nN := HP.out.1.le
    clear hb tr c1 c2
    by_cases hlt : k < n
    · obtain ⟨l, hu, hl⟩ := HP.out.1.tail k hlt
      obtain ⟨ot, ct, et⟩ := hu.sl
      obtain ⟨e1, e2, e3, e4⟩ := HP.out.2 k hlt
      obtain ⟨qk, hqk⟩ : ∃ x, q k = x := ⟨_, rfl⟩
      obtain ⟨rk, hrk⟩ : ∃ x, r k = x := ⟨_, rfl⟩
      rw [hqk] at e1 e2
      rw [hrk] at e2 e3 e4
      have p0 := later (HP.out.1.row.cell0 hlt) HB.out
      have p3 := later (HP.out.1.row.cell hlt (j := 3) (by decide)) HB.out
      have i1 := later e2 HB.out
      have lq := cell_lt i1
      have lp := cell_lt p0
      rw [e1] at p0
      simp only [pv, show ¬ (3 : Nat) = 0 from by decide, show ¬ (3 : Nat) = 1 from by decide, show ¬ (3 : Nat) = 2 from by decide, if_true, if_false] at p3
      rw [et] at p3
      have c1 := HC.out.1.cell hlt
      have c2 := HC.out.2.cell hlt
      have f1 := HC.out.1.frozen k
      have f2 := HC.out.2.frozen k
      have g1 := HC.out.1.lt
      have g2 := HC.out.2.lt
      simp only [Nat.lt_irrefl, if_false] at c1 c2
      have hne : R1 ≠ R2 := by
        obtain ⟨_, r1, _⟩ := HC.out.1
        obtain ⟨_, r2, _⟩ := HC.out.2
        exact row_ne r1 r2 (by decide)
      have HE := Lib.hid (And.intro et (And.intro hrk hne))
      have tw := HT.out.lt
      have pw := HP.out.1.row.lt
      have qw := cell_lt e2
      simp only [] at qw
      have a1 := H2.out.2.2.2
      have a2 := H1.out.2.2
      have n1 : t ≠ R1 := by omega
      have n2 : pr ≠ R1 := by omega
      have n3 : qk ≠ R1 := by omega
      have n4 : R1 ≠ t := by omega
      have n5 : R1 ≠ pr := by omega
      have n6 : R1 ≠ qk := by omega
      have n7 := hne.symm
      unfold ptr at p0
      clear hu hl et e1 e2 hqk hrk tw pw qw a1 a2
      go_wp2_with fail
      go_roundw
      case rel =>
        refine ⟨k + 1, by omega, by go_num, (HB.out.setCell H1.out.2.2 _).setCell H2.out.2.2.2 _, ((HC.out.1.set k _).set_other HE.out.2.2 _ _).congr fun i hi => ?_, ((HC.out.2.set_other HE.out.2.2.symm _ _).set k _).congr fun i hi => ?_⟩
        · unfold upd
          by_cases e : i = k
          · subst e; simp [HE.out.1]
          · rw [if_neg e]
            by_cases e2 : i < k
            · have e3 : i < k + 1 := by omega
              simp only [e2, e3, if_true]
            · have e3 : ¬ i < k + 1 := by omega
              simp only [e2, e3, if_false]
        · unfold upd
          by_cases e : i = k
          · subst e; simp [HE.out.2.1]
          · rw [if_neg e]
            by_cases e2 : i < k
            · have e3 : i < k + 1 := by omega
              simp only [e2, e3, if_true]
            · have e3 : ¬ i < k + 1 := by omega
              simp only [e2, e3, if_false]
      case measure => simp [intOf]; omega
    · obtain rfl : k = n := by omega
      clear hlt
      go_wp2_with fail
      go_quiet (fail)
      go_wp2_with fail
      exact bodyPost_ret (v := .tuple #[.bool false, .slice oh lh ch, .slice (some ⟨R1, 0, none⟩) k k, .slice (some ⟨R2, 0, none⟩) k k]) (by simp only [results, Tryd.results11]; simp [go_sem]) rfl ⟨R1, R2, rfl, HC.out.1.congr fun i hi => by rw [if_pos hi], HC.out.2.congr fun i hi => by rw [if_pos hi], below_drewN HB.out _⟩

end Go.Proofs.YtkncfhhiookgdacDoor
