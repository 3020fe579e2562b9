import Derived.Test.YtkncfhhiookgdabGreatFmtKit
import Derived.Test.YtkncfhhiookgdabGreatFmtIuI
import Derived.BigQuiet
import Derived.StillTailTactics
import Derived.WalkMore
import Derived.Deep.LoopGhost
namespace Go.Proofs.YtkncfhhiookgdabGreatFmt
open Go.ChangeShapes Go.WideShapes Go.ChangeAt Go.RowKit
set_option linter.unusedVariables false
set_option maxRecDepth 100000
set_option maxHeartbeats 2000000

open Go.MuLone Go.Extern.Stop Go.Stop Go.Extern
def pat (s : ByteArray) (r : Nat) : ByteArray := s.extract 1 r
def flg (s : ByteArray) (r : Nat) : ByteArray := s.extract (r + 1) s.size
/-- What the reading of a regular expression leaves. -/
def RegIs (B p k mu he ms : Nat) (f : Int) (s : ByteArray) (r : Nat) (W : World) (e : Ending) (W' : World) : Prop := ∃ (u fl : Bool) (v : Value) (n : Nat) (xs : List Value),
  e = .returned (.tuple #[.string (pat s r), .string (flg s r), .bool u]) ∧ LG B k mu he ms 0 v n xs fl W' ∧ PX p k mu he ms f W' ∧ Below B W W' ∧
  ((fl = true ∧ u = false ∧ ∃ i, i < (pat s r).size ∧ bt (pat s r) i = 41) ∨ (fl = false ∧ FR (flg s r) f u))
set_option maxHeartbeats 16000000 in
theorem reg16 (F : Interp) (B p k mu he ms : Nat) (f loc : Int) (s : ByteArray) (r : Nat) (W : World) (hF : F.answers W.tape) (H : LG B k mu he ms 0 (.slice none 0 0) 0 [] false W) (hP : PX p k mu he ms f W)
    (hr : Lib.lastIndexByte s 47 = (r : Int)) (hr1 : 1 ≤ r) (hr2 : r < s.size) (hs : s.size ≤ 1048576) (m1 : bits .and .u64 f 562949953421312 = 0) (m2 : bits .and .u64 f 2251799813685248 = 0) (m3 : bits .and .u64 f 18014398509481984 = 0) :
    Calls Tryz.prog 16 #[.pointer (some ⟨p, 0, none⟩), .agg #[.int .i32 loc], .string s] W (RegIs B p k mu he ms f s r W) := by
  have HF := Lib.hid hF
  have HH := Lib.hid H
  have HP := Lib.hid hP
  have HR := Lib.hid hr
  clear H hP hF hr
  have r4 : RowAt ((W.alloc (.cells #[.int .i32 loc] 59)).alloc (.cells #[.int .i32 0, .int .i32 0] 61)) W.heap.size #[.int .i32 loc] 59 := (RowAt.newAt rfl).alloc _
  have r10 : RowAt ((W.alloc (.cells #[.int .i32 loc] 59)).alloc (.cells #[.int .i32 0, .int .i32 0] 61)) (W.heap.size + 1) #[.int .i32 0, .int .i32 0] 61 := RowAt.newAt (by simp)
  have b0 : Below W.heap.size W ((W.alloc (.cells #[.int .i32 loc] 59)).alloc (.cells #[.int .i32 0, .int .i32 0] 61)) := ((Below.refl _ _).alloc (Nat.le_refl _) _).alloc (by simp) _
  have HB := Lib.hid (And.intro b0 (And.intro r4 r10))
  clear b0 r4 r10
  go_enter Tryz.func16, Tryz.ntmps16
  go_wp2_with fail
  go_step3
  go_wp2_with fail
  obtain ⟨W1, hW1⟩ : ∃ W1, W1 = (W.alloc (.cells #[.int .i32 loc] 59)).alloc (.cells #[.int .i32 0, .int .i32 0] 61) := ⟨_, rfl⟩
  rw [← hW1] at HB ⊢
  clear hW1
  obtain ⟨b4, hb4⟩ : ∃ b4, b4 = W.heap.size := ⟨_, rfl⟩
  obtain ⟨b10, hb10⟩ : ∃ b10, b10 = W.heap.size + 1 := ⟨_, rfl⟩
  have HB' : Hid (Below W.heap.size W W1 ∧ RowAt W1 b4 #[.int .i32 loc] 59 ∧ RowAt W1 b10 #[.int .i32 0, .int .i32 0] 61 ∧ W.heap.size ≤ b10) := Lib.hid (by rw [hb4, hb10]; exact ⟨HB.out.1, HB.out.2.1, HB.out.2.2, by omega⟩)
  rw [← hb10, ← hb4]
  clear HB hb10 hb4
  refine (last25 s hs _).mono ?_
  rintro e w2 ⟨rfl, rfl⟩
  rw [HR.out]
  have hpat : s.extract 1 r = pat s r := rfl
  have hflg : s.extract (r + 1) s.size = flg s r := rfl
  have hps : (pat s r).size ≤ 1048576 := by unfold pat; rw [ByteArray.size_extract]; omega
  have hfs : (flg s r).size ≤ 1048576 := by unfold flg; rw [ByteArray.size_extract]; omega
  go_wp2_with fail
  refine (idx26 _ _ _).mono ?_
  rintro e w3 ⟨z, rfl, rfl⟩
  go_upto_region 7 with fail
  generalize decide (0 ≤ z) = uni
  go_wp2_with fail
  go_step3
  go_wp2_with fail
  obtain ⟨q52, q76, q18, q25, q23, lp⟩ := (HP.out.kp (Kp.below HB'.out.1)).at
  go_loopg [8, 9, 13, 14] ((pat s r).size + 2) (fun g v8 v9 v13 v14 wr => ∃ i d : Nat, g + i = (pat s r).size + 2 ∧ d ≤ i ∧ v8 = .bool false ∧ v9 = .string ⟨#[]⟩ ∧ v13 = .int .i64 d ∧ v14 = .int .i64 i ∧ wr = W1)
  case atStart => exact ⟨0, 0, by omega, by omega, rfl, rfl, rfl, rfl, rfl⟩
  case round =>
    obtain ⟨i, d, hg, hdi, rfl, rfl, rfl, rfl, rfl⟩ := hrel
    by_cases hlt : i < (pat s r).size
    · have hlt' : (i : Int) < ((pat s r).size : Int) := by omega
      have hidx := index_bt (pat s r) i hlt
      obtain ⟨c, hc⟩ : ∃ c : Nat, c = bt (pat s r) i := ⟨_, rfl⟩
      rw [← hc] at hidx
      have HC := Lib.hid hc
      clear hc
      by_cases h91 : c = 91
      · as_aux_lemma =>
          subst h91
          obtain ⟨wo, rfl⟩ : ∃ wo : World, wo = wr := ⟨_, rfl⟩
          obtain ⟨G, hG⟩ : ∃ G : Nat, G = gk := ⟨_, rfl⟩
          rw [← hG] at hg
          go_wp2_with fail
          go_step3
          go_wp2_with fail
          go_step3
          go_wp2_with fail
          go_loopg [14] ((pat s r).size + 1 - i) (fun g v14 wr => ∃ j : Nat, g + j = (pat s r).size + 2 ∧ i + 1 ≤ j ∧ v14 = .int .i64 j ∧ wr = wo)
          case atStart => exact ⟨i + 1, by omega, by omega, by go_num, rfl⟩
          case round =>
            obtain ⟨j, hj, hij, rfl, rfl⟩ := hrel
            by_cases hlt2 : j < (pat s r).size
            · have hlt2' : (j : Int) < ((pat s r).size : Int) := by omega
              have hidx2 := index_bt (pat s r) j hlt2
              obtain ⟨c, hc⟩ : ∃ c : Nat, c = bt (pat s r) j := ⟨_, rfl⟩
              rw [← hc] at hidx2
              clear hc
              by_cases h93 : c = 93
              · subst h93
                go_wp2_with fail
                rw [Exit.noGoto_normal]
                go_wp2_with fail
                go_roundg ((pat s r).size + 2 - (j + 1))
                case measure => omega
                case rel => exact ⟨j + 1, d, by omega, by omega, rfl, rfl, by go_num, by go_num, by first | rfl | trivial⟩
              by_cases h92 : c = 92
              · subst h92
                go_wp2_with fail
                go_roundg ((pat s r).size + 2 - (j + 2))
                case measure => omega
                case rel => exact ⟨j + 2, by omega, by omega, by go_num, by first | rfl | trivial⟩
              · have b1 : ((c : Int) == 93) = false := beq_false_of_ne (by omega)
                have b2 : ((c : Int) == 92) = false := beq_false_of_ne (by omega)
                have g1 : ¬ (c : Int) = 93 := by omega
                have g2 : ¬ (c : Int) = 92 := by omega
                go_wp2_with fail
                go_roundg ((pat s r).size + 2 - (j + 1))
                case measure => omega
                case rel => exact ⟨j + 1, by omega, by omega, by go_num, by first | rfl | trivial⟩
            · go_wp2_with fail
              rw [Exit.noGoto_normal]
              go_wp2_with fail
              go_roundg ((pat s r).size + 2 - j)
              case measure => omega
              case rel => exact ⟨j, d, by omega, by omega, rfl, rfl, by go_num, by go_num, by first | rfl | trivial⟩
      by_cases h40 : c = 40
      · as_aux_lemma =>
          subst h40
          go_wp2_with fail
          refine (pref27 _ _ _).mono ?_
          rintro e w5 ⟨B1, rfl, rfl⟩
          cases B1
          case true =>
            go_wp2_with fail
            refine (has28 f _ _).mono ?_
            rintro e w5 ⟨rfl, rfl⟩
            rw [m1]
            go_wp2_with fail
            go_roundg ((pat s r).size + 2 - (i + 1))
            case measure => omega
            case rel => exact ⟨i + 1, d + 1, by omega, by omega, rfl, rfl, by go_num, by go_num, by first | rfl | trivial⟩
          case false =>
            go_wp2_with fail
            refine (pref27 _ _ _).mono ?_
            rintro e w5 ⟨B1, rfl, rfl⟩
            cases B1
            case true =>
              go_wp2_with fail
              refine (has28 f _ _).mono ?_
              rintro e w5 ⟨rfl, rfl⟩
              rw [m1]
              go_wp2_with fail
              go_roundg ((pat s r).size + 2 - (i + 1))
              case measure => omega
              case rel => exact ⟨i + 1, d + 1, by omega, by omega, rfl, rfl, by go_num, by go_num, by first | rfl | trivial⟩
            case false =>
              go_wp2_with fail
              refine (pref27 _ _ _).mono ?_
              rintro e w5 ⟨B1, rfl, rfl⟩
              cases B1
              case true =>
                go_wp2_with fail
                refine (has28 f _ _).mono ?_
                rintro e w5 ⟨rfl, rfl⟩
                rw [m2]
                go_wp2_with fail
                go_roundg ((pat s r).size + 2 - (i + 1))
                case measure => omega
                case rel => exact ⟨i + 1, d + 1, by omega, by omega, rfl, rfl, by go_num, by go_num, by first | rfl | trivial⟩
              case false =>
                go_wp2_with fail
                go_roundg ((pat s r).size + 2 - (i + 1))
                case measure => omega
                case rel => exact ⟨i + 1, d + 1, by omega, by omega, rfl, rfl, by go_num, by go_num, by first | rfl | trivial⟩
      by_cases h41 : c = 41
      · as_aux_lemma =>
          subst h41
          by_cases hd0 : d = 0
          · subst hd0
            have c4 := HB'.out.2.1.cellv (j := 0) (v := .int .i32 loc) rfl
            have l4 := HB'.out.2.1.lt
            go_upto_region 39 with fail
            generalize wrap32 (loc + ((i : Int) + 1)) = x
            have r5 := RowAt.new wr #[.int .i32 x, .int .i32 1] 61
            have b5 : Below wr.heap.size wr (wr.alloc (.cells #[.int .i32 x, .int .i32 1] 61)) := (Below.refl _ _).alloc (Nat.le_refl _) _
            obtain ⟨q, hq⟩ : ∃ q, q = wr.heap.size := ⟨_, rfl⟩
            rw [← hq] at r5 ⊢
            generalize wr.alloc (.cells #[.int .i32 x, .int .i32 1] 61) = W5 at r5 b5 ⊢
            have hPX : PX p k mu he ms f W5 := (HP.out.kp (Kp.below HB'.out.1)).kp (Kp.below b5)
            have bW : Below W.heap.size W W5 := HB'.out.1.trans (b5.mono HB'.out.1.size)
            obtain ⟨e51, e52, e53, e54, e55, e56⟩ := hPX.log
            obtain ⟨_, e76, _, _, _, lp5⟩ := hPX.at
            have e0 := r5.cellv (j := 0) (v := .int .i32 x) rfl
            have e1 := r5.cellv (j := 1) (v := .int .i32 1) rfl
            have lq := r5.lt
            have HE := Lib.hid (And.intro hPX (And.intro bW e76))
            clear r5 b5 hq hPX bW c4 l4 e76 q52 q76 q18 q25 q23 lp
            go_still_tail 8, (by kernel_rfl)
            go_wp2_with fail
            refine (adderr29 B k mu he ms (.slice none 0 0) 0 [] false _ (HH.out.later (below_drewN HE.out.2.1 1)) p 67 x 1 _ (by omega) HE.out.2.2 lp5).mono ?_
            rintro e6 w6 ⟨rfl, v6, H6, k6, b6⟩
            have HE6 := Lib.hid (And.intro H6 (And.intro k6 b6))
            clear H6 k6 b6 e0 e1 lq e51 e52 e53 e54 e55 e56 lp5
            go_wp2_with fail
            rw [Exit.noGoto_ret]
            go_ret3
            exact ⟨false, true, v6, _, _, rfl, HE6.out.1, (HE.out.1.kp (Kp.below (below_drewN (Below.refl _ _) 1))).kp HE6.out.2.1, ((below_drewN HE.out.2.1 1).mono HH.out.hB).trans HE6.out.2.2, .inl ⟨rfl, rfl, i, hlt, HC.out.symm⟩⟩
          · have hd1 : ¬ (d : Int) = 0 := by omega
            have hd2 : ((d : Int) == 0) = false := beq_false_of_ne hd1
            go_wp2_with fail
            go_roundg ((pat s r).size + 2 - (i + 1))
            case measure => omega
            case rel => exact ⟨i + 1, d - 1, by omega, by omega, rfl, rfl, by go_num, by go_num, by first | rfl | trivial⟩
      by_cases h92 : c = 92
      · as_aux_lemma =>
          subst h92
          cases uni
          case false =>
            go_wp2_with fail
            go_roundg ((pat s r).size + 2 - (i + 2))
            case measure => omega
            case rel => exact ⟨i + 2, d, by omega, by omega, rfl, rfl, by go_num, by go_num, by first | rfl | trivial⟩
          case true =>
            go_wp2_with fail
            refine (pref27 _ _ _).mono ?_
            rintro e w5 ⟨B1, rfl, rfl⟩
            cases B1
            case true =>
              go_wp2_with fail
              refine (has28 f _ _).mono ?_
              rintro e w5 ⟨rfl, rfl⟩
              rw [m3]
              go_wp2_with fail
              go_roundg ((pat s r).size + 2 - (i + 2))
              case measure => omega
              case rel => exact ⟨i + 2, d, by omega, by omega, rfl, rfl, by go_num, by go_num, by first | rfl | trivial⟩
            case false =>
              go_wp2_with fail
              refine (pref27 _ _ _).mono ?_
              rintro e w5 ⟨B1, rfl, rfl⟩
              cases B1
              case true =>
                go_wp2_with fail
                refine (has28 f _ _).mono ?_
                rintro e w5 ⟨rfl, rfl⟩
                rw [m3]
                go_wp2_with fail
                go_roundg ((pat s r).size + 2 - (i + 2))
                case measure => omega
                case rel => exact ⟨i + 2, d, by omega, by omega, rfl, rfl, by go_num, by go_num, by first | rfl | trivial⟩
              case false =>
                go_wp2_with fail
                go_roundg ((pat s r).size + 2 - (i + 2))
                case measure => omega
                case rel => exact ⟨i + 2, d, by omega, by omega, rfl, rfl, by go_num, by go_num, by first | rfl | trivial⟩
      · as_aux_lemma =>
          have b91 : ((c : Int) == 91) = false := beq_false_of_ne (by omega)
          have g91 : ¬ (c : Int) = 91 := by omega
          have b40 : ((c : Int) == 40) = false := beq_false_of_ne (by omega)
          have g40 : ¬ (c : Int) = 40 := by omega
          have b41 : ((c : Int) == 41) = false := beq_false_of_ne (by omega)
          have g41 : ¬ (c : Int) = 41 := by omega
          have b92 : ((c : Int) == 92) = false := beq_false_of_ne (by omega)
          have g92 : ¬ (c : Int) = 92 := by omega
          go_wp2_with fail
          go_roundg ((pat s r).size + 2 - (i + 1))
          case measure => omega
          case rel => exact ⟨i + 1, d, by omega, by omega, rfl, rfl, by go_num, by go_num, by first | rfl | trivial⟩
    · as_aux_lemma =>
        have H1 := Lib.hid (And.intro HB'.out.1 (And.intro HB'.out.2.1 (And.intro HB'.out.2.2.1 HB'.out.2.2.2)))
        clear q52 q76 q18 q25 q23 lp HB' hdi hg
        go_wp2_with fail
        clear hlt
        obtain ⟨wo, rfl⟩ : ∃ wo : World, wo = wr := ⟨_, rfl⟩
        go_loopg [8, 9] ((flg s r).size) (fun g v8 v9 wr => ∃ pos : Nat, g + pos = (flg s r).size ∧ v8 = .bool false ∧ v9 = .string ⟨#[]⟩ ∧ wr.heap[wo.heap.size]? = some (.stringIter (flg s r) pos) ∧ Hid (∀ j, j < pos → fa (bt (flg s r) j) f = true) ∧ Below wo.heap.size wo wr)
        case atStart =>
          refine ⟨0, by omega, rfl, rfl, ?_, Lib.hid fun j hj => by omega, ?_⟩
          · simpa using World.iter_heap wo (flg s r) 0
          · exact (Below.refl _ _).alloc (Nat.le_refl _) _
        case round =>
          obtain ⟨pos, hpos, rfl, rfl, hit, HFA, hbw⟩ := hrel
          by_cases hp : pos < (flg s r).size
          · have hp' : (pos : Int) < ((flg s r).size : Int) := by omega
            have hnx : ∀ ty, (Instr.next (.pointer (some ⟨wo.heap.size, 0, none⟩)) true ty).run Tryz.prog wr = _ := fun ty => Lib.run_next_any_at wr wo.heap.size (flg s r) pos ty hit hp
            have hit2 := Lib.iterAt_heap wr wo.heap.size (flg s r) pos (pos + (Utf8.decode (flg s r) pos).2) hit
            have hbw2 := Lib.below_iterAt hbw (k := wo.heap.size) (Nat.le_refl _) (flg s r) (pos + (Utf8.decode (flg s r) pos).2)
            obtain ⟨rn, wd, hrn⟩ : ∃ rn wd : Nat, Utf8.decode (flg s r) pos = (rn, wd) := ⟨_, _, rfl⟩
            have hde : (bt (flg s r) pos < 128 → rn = bt (flg s r) pos ∧ wd = 1) ∧ (128 ≤ bt (flg s r) pos → 128 ≤ rn) := by
              refine ⟨fun h => ?_, fun h => ?_⟩
              · have := decode_ascii (flg s r) pos hp (by rw [← bt_at _ _ hp]; exact h)
                rw [hrn, ← bt_at _ _ hp] at this
                injection this with h1 h2
                exact ⟨h1, h2⟩
              · have := (decode_high (flg s r) pos hp (by rw [← bt_at _ _ hp]; exact h)).1
                rw [hrn] at this
                exact this
            rw [hrn] at hnx hit2 hbw2
            obtain ⟨W6, hW6⟩ : ∃ W6, W6 = wr.iterAt wo.heap.size (flg s r) (pos + wd) := ⟨_, rfl⟩
            simp only [← hW6] at hnx hit2 hbw2
            have hfa : fa rn f = fa (bt (flg s r) pos) f := by
              by_cases h : bt (flg s r) pos < 128
              · rw [(hde.1 h).1]
              · have := hde.2 (by omega)
                rw [fa_high _ f (by omega), fa_high _ f (by omega)]
            have HW := Lib.hid (And.intro hit2 (And.intro hbw2 (And.intro hfa hde)))
            have b6 : Below W.heap.size W W6 := H1.out.1.trans (hbw2.mono H1.out.1.size)
            obtain ⟨_, _, _, _, c23, lp⟩ := (HP.out.kp (Kp.below b6)).at
            have HW6 := Lib.hid b6
            clear hit hbw hit2 hbw2 hfa hde hW6 hrn b6
            by_cases h103 : rn = 103
            · subst h103
              have hlow : bt (flg s r) pos < 128 := by
                rcases Nat.lt_or_ge (bt (flg s r) pos) 128 with h | h
                · exact h
                · have := HW.out.2.2.2.2 h; omega
              obtain ⟨hbt, rfl⟩ := HW.out.2.2.2.1 hlow
              clear hbt hlow
              go_wp2_with fail
              go_roundg ((flg s r).size - (pos + 1))
              case measure => omega
              case rel => exact ⟨pos + 1, by omega, rfl, rfl, HW.out.1, Lib.hid fun j hj => by
                by_cases e : j = pos
                · subst e; exact (HW.out.2.2.1.symm.trans rfl)
                · exact HFA.out j (by omega), HW.out.2.1⟩
            by_cases h105 : rn = 105
            · subst h105
              have hlow : bt (flg s r) pos < 128 := by
                rcases Nat.lt_or_ge (bt (flg s r) pos) 128 with h | h
                · exact h
                · have := HW.out.2.2.2.2 h; omega
              obtain ⟨hbt, rfl⟩ := HW.out.2.2.2.1 hlow
              clear hbt hlow
              go_wp2_with fail
              go_roundg ((flg s r).size - (pos + 1))
              case measure => omega
              case rel => exact ⟨pos + 1, by omega, rfl, rfl, HW.out.1, Lib.hid fun j hj => by
                by_cases e : j = pos
                · subst e; exact (HW.out.2.2.1.symm.trans rfl)
                · exact HFA.out j (by omega), HW.out.2.1⟩
            by_cases h109 : rn = 109
            · subst h109
              have hlow : bt (flg s r) pos < 128 := by
                rcases Nat.lt_or_ge (bt (flg s r) pos) 128 with h | h
                · exact h
                · have := HW.out.2.2.2.2 h; omega
              obtain ⟨hbt, rfl⟩ := HW.out.2.2.2.1 hlow
              clear hbt hlow
              go_wp2_with fail
              go_roundg ((flg s r).size - (pos + 1))
              case measure => omega
              case rel => exact ⟨pos + 1, by omega, rfl, rfl, HW.out.1, Lib.hid fun j hj => by
                by_cases e : j = pos
                · subst e; exact (HW.out.2.2.1.symm.trans rfl)
                · exact HFA.out j (by omega), HW.out.2.1⟩
            by_cases h115 : rn = 115
            · subst h115
              have hlow : bt (flg s r) pos < 128 := by
                rcases Nat.lt_or_ge (bt (flg s r) pos) 128 with h | h
                · exact h
                · have := HW.out.2.2.2.2 h; omega
              obtain ⟨hbt, rfl⟩ := HW.out.2.2.2.1 hlow
              clear hbt hlow
              have hv : fa 115 f = (bits .and .u64 f 281474976710656 == 0) := rfl
              go_wp2_with fail
              refine (has28 f _ _).mono ?_
              rintro e w5 ⟨rfl, rfl⟩
              obtain ⟨t, ht⟩ : ∃ t, (bits .and .u64 f 281474976710656 != 0) = t := ⟨_, rfl⟩
              rw [ht]
              cases t
              case false =>
                have ht2 : (bits .and .u64 f 281474976710656 == 0) = true := by simpa using ht
                have HV := Lib.hid (hv.trans ht2)
                clear ht ht2 hv
                go_wp2_with fail
                go_roundg ((flg s r).size - (pos + 1))
                case measure => omega
                case rel => exact ⟨pos + 1, by omega, rfl, rfl, HW.out.1, Lib.hid fun j hj => by
                  by_cases e : j = pos
                  · subst e; exact (HW.out.2.2.1.symm.trans HV.out)
                  · exact HFA.out j (by omega), HW.out.2.1⟩
              case true =>
                have ht2 : (bits .and .u64 f 281474976710656 == 0) = false := by simpa using ht
                have HV := Lib.hid (HW.out.2.2.1.symm.trans (hv.trans ht2))
                clear ht ht2 hv
                as_aux_lemma =>
                  have r4 := H1.out.2.1.below HW.out.2.1 H1.out.2.1.lt
                  have r10 := H1.out.2.2.1.below HW.out.2.1 H1.out.2.2.1.lt
                  have c4 := r4.cellv (j := 0) (v := .int .i32 loc) rfl
                  have d0 := r10.cellv (j := 0) (v := .int .i32 0) rfl
                  have d1 := r10.cellv (j := 1) (v := .int .i32 0) rfl
                  have f0 := r10.frozen 0
                  have f1 := r10.frozen 1
                  have l4 := r4.lt
                  have l10 := r10.lt
                  have hT : F.answers W6.tape := HW6.out.tape ▸ HF.out
                  have hF' := answers_open hT
                  have HR10 := Lib.hid r10
                  clear r4 r10 hT
                  go_upto_region 70 with fail
                  generalize FmtStop.textOf _ = tx
                  generalize wrap32 (wrap32 (loc + ((r : Int) + 1)) + (pos : Int)) = x
                  have r10 := ((HR10.out.set 0 (.int .i32 x)).set 1 (.int .i32 1)).alloc (.cells #[.iface 21 (.int .i32 115)] 20)
                  have zz : W.heap.size ≤ ((W6.setCell ⟨b10, 0, none⟩ (.int .i32 x)).setCell ⟨b10, 1, none⟩ (.int .i32 1)).heap.size := by
                    have := HW6.out.size
                    simpa using this
                  have b7 : Below W.heap.size W ((((W6.setCell ⟨b10, 0, none⟩ (.int .i32 x)).setCell ⟨b10, 1, none⟩ (.int .i32 1)).alloc (.cells #[.iface 21 (.int .i32 115)] 20)).drew) := (((HW6.out.setCell H1.out.2.2.2 (.int .i32 x)).setCell H1.out.2.2.2 (.int .i32 1)).alloc zz _).drew
                  have r10' : RowAt ((((W6.setCell ⟨b10, 0, none⟩ (.int .i32 x)).setCell ⟨b10, 1, none⟩ (.int .i32 1)).alloc (.cells #[.iface 21 (.int .i32 115)] 20)).drew) b10 #[.int .i32 x, .int .i32 1] 61 := r10
                  clear r10 zz c4 d0 d1 f0 f1 l4 l10 hF' c23 lp hnx
                  generalize (((W6.setCell ⟨b10, 0, none⟩ (.int .i32 x)).setCell ⟨b10, 1, none⟩ (.int .i32 1)).alloc (.cells #[.iface 21 (.int .i32 115)] 20)).drew = W7 at b7 r10' ⊢
                  have P7 := HP.out.kp (Kp.below b7)
                  obtain ⟨_, _, c18, c25, _, lp⟩ := P7.at
                  have H7 := Lib.hid (And.intro b7 (And.intro r10' P7))
                  clear b7 r10' P7
                  go_upto_region 72 with fail
                  go_quiet ((go_at_call 31; exact quiet1 (fun V => where31 V)))
                  go_upto_region 73 with fail
                  refine reg_conv rg73 (by kernel_rfl) ?_
                  refine use73 (F := F) p b10 k mu he ms f x tx B (.slice none 0 0) 0 [] false (by kernel_rfl) (fun c a d v w h => by cases d <;> exact h) ((below_drewN H7.out.1 _).tape ▸ HF.out) (HH.out.later (below_drewN H7.out.1 _)) (by omega) (H7.out.2.2.kp (Kp.below (below_drewN (Below.refl _ _) _))) (H7.out.2.1.drewN _) ?_
                  intro a' W8 v' n' xs' e6 e7 e8 ed l8 k8 b8
                  have HN := Lib.hid (And.intro e6 (And.intro e7 (And.intro e8 (And.intro ed (And.intro l8 (And.intro k8 b8))))))
                  clear e6 e7 e8 ed l8 k8 b8
                  go_wp2_with fail
                  try rw [Exit.noGoto_ret]
                  obtain ⟨e6, e7, e8, ed, l8, k8, b8⟩ := HN.out
                  exact bodyPost_ret (results_tmp3 rfl _ _ _) ed ⟨true, false, v', n', xs', by rw [e6, e7, e8]; rfl, l8, (H7.out.2.2.kp (Kp.below (below_drewN (Below.refl _ _) _))).kp k8, ((below_drewN H7.out.1 _).mono HH.out.hB).trans b8, .inr ⟨rfl, .inl ⟨rfl, pos, hp, HV.out⟩⟩⟩
            by_cases h121 : rn = 121
            · subst h121
              have hlow : bt (flg s r) pos < 128 := by
                rcases Nat.lt_or_ge (bt (flg s r) pos) 128 with h | h
                · exact h
                · have := HW.out.2.2.2.2 h; omega
              obtain ⟨hbt, rfl⟩ := HW.out.2.2.2.1 hlow
              clear hbt hlow
              have hv : fa 121 f = (bits .and .u64 f 9007199254740992 == 0) := rfl
              go_wp2_with fail
              refine (has28 f _ _).mono ?_
              rintro e w5 ⟨rfl, rfl⟩
              obtain ⟨t, ht⟩ : ∃ t, (bits .and .u64 f 9007199254740992 != 0) = t := ⟨_, rfl⟩
              rw [ht]
              cases t
              case false =>
                have ht2 : (bits .and .u64 f 9007199254740992 == 0) = true := by simpa using ht
                have HV := Lib.hid (hv.trans ht2)
                clear ht ht2 hv
                go_wp2_with fail
                go_roundg ((flg s r).size - (pos + 1))
                case measure => omega
                case rel => exact ⟨pos + 1, by omega, rfl, rfl, HW.out.1, Lib.hid fun j hj => by
                  by_cases e : j = pos
                  · subst e; exact (HW.out.2.2.1.symm.trans HV.out)
                  · exact HFA.out j (by omega), HW.out.2.1⟩
              case true =>
                have ht2 : (bits .and .u64 f 9007199254740992 == 0) = false := by simpa using ht
                have HV := Lib.hid (HW.out.2.2.1.symm.trans (hv.trans ht2))
                clear ht ht2 hv
                as_aux_lemma =>
                  have r4 := H1.out.2.1.below HW.out.2.1 H1.out.2.1.lt
                  have r10 := H1.out.2.2.1.below HW.out.2.1 H1.out.2.2.1.lt
                  have c4 := r4.cellv (j := 0) (v := .int .i32 loc) rfl
                  have d0 := r10.cellv (j := 0) (v := .int .i32 0) rfl
                  have d1 := r10.cellv (j := 1) (v := .int .i32 0) rfl
                  have f0 := r10.frozen 0
                  have f1 := r10.frozen 1
                  have l4 := r4.lt
                  have l10 := r10.lt
                  have hT : F.answers W6.tape := HW6.out.tape ▸ HF.out
                  have hF' := answers_open hT
                  have HR10 := Lib.hid r10
                  clear r4 r10 hT
                  go_upto_region 70 with fail
                  generalize FmtStop.textOf _ = tx
                  generalize wrap32 (wrap32 (loc + ((r : Int) + 1)) + (pos : Int)) = x
                  have r10 := ((HR10.out.set 0 (.int .i32 x)).set 1 (.int .i32 1)).alloc (.cells #[.iface 21 (.int .i32 121)] 20)
                  have zz : W.heap.size ≤ ((W6.setCell ⟨b10, 0, none⟩ (.int .i32 x)).setCell ⟨b10, 1, none⟩ (.int .i32 1)).heap.size := by
                    have := HW6.out.size
                    simpa using this
                  have b7 : Below W.heap.size W ((((W6.setCell ⟨b10, 0, none⟩ (.int .i32 x)).setCell ⟨b10, 1, none⟩ (.int .i32 1)).alloc (.cells #[.iface 21 (.int .i32 121)] 20)).drew) := (((HW6.out.setCell H1.out.2.2.2 (.int .i32 x)).setCell H1.out.2.2.2 (.int .i32 1)).alloc zz _).drew
                  have r10' : RowAt ((((W6.setCell ⟨b10, 0, none⟩ (.int .i32 x)).setCell ⟨b10, 1, none⟩ (.int .i32 1)).alloc (.cells #[.iface 21 (.int .i32 121)] 20)).drew) b10 #[.int .i32 x, .int .i32 1] 61 := r10
                  clear r10 zz c4 d0 d1 f0 f1 l4 l10 hF' c23 lp hnx
                  generalize (((W6.setCell ⟨b10, 0, none⟩ (.int .i32 x)).setCell ⟨b10, 1, none⟩ (.int .i32 1)).alloc (.cells #[.iface 21 (.int .i32 121)] 20)).drew = W7 at b7 r10' ⊢
                  have P7 := HP.out.kp (Kp.below b7)
                  obtain ⟨_, _, c18, c25, _, lp⟩ := P7.at
                  have H7 := Lib.hid (And.intro b7 (And.intro r10' P7))
                  clear b7 r10' P7
                  go_upto_region 72 with fail
                  go_quiet ((go_at_call 31; exact quiet1 (fun V => where31 V)))
                  go_upto_region 73 with fail
                  refine reg_conv rg73 (by kernel_rfl) ?_
                  refine use73 (F := F) p b10 k mu he ms f x tx B (.slice none 0 0) 0 [] false (by kernel_rfl) (fun c a d v w h => by cases d <;> exact h) ((below_drewN H7.out.1 _).tape ▸ HF.out) (HH.out.later (below_drewN H7.out.1 _)) (by omega) (H7.out.2.2.kp (Kp.below (below_drewN (Below.refl _ _) _))) (H7.out.2.1.drewN _) ?_
                  intro a' W8 v' n' xs' e6 e7 e8 ed l8 k8 b8
                  have HN := Lib.hid (And.intro e6 (And.intro e7 (And.intro e8 (And.intro ed (And.intro l8 (And.intro k8 b8))))))
                  clear e6 e7 e8 ed l8 k8 b8
                  go_wp2_with fail
                  try rw [Exit.noGoto_ret]
                  obtain ⟨e6, e7, e8, ed, l8, k8, b8⟩ := HN.out
                  exact bodyPost_ret (results_tmp3 rfl _ _ _) ed ⟨true, false, v', n', xs', by rw [e6, e7, e8]; rfl, l8, (H7.out.2.2.kp (Kp.below (below_drewN (Below.refl _ _) _))).kp k8, ((below_drewN H7.out.1 _).mono HH.out.hB).trans b8, .inr ⟨rfl, .inl ⟨rfl, pos, hp, HV.out⟩⟩⟩
            by_cases h117 : rn = 117
            · subst h117
              have hlow : bt (flg s r) pos < 128 := by
                rcases Nat.lt_or_ge (bt (flg s r) pos) 128 with h | h
                · exact h
                · have := HW.out.2.2.2.2 h; omega
              obtain ⟨hbt, rfl⟩ := HW.out.2.2.2.1 hlow
              clear hbt hlow
              have hv : fa 117 f = (bits .and .u64 f 9007199254740992 == 0) := rfl
              go_wp2_with fail
              refine (has28 f _ _).mono ?_
              rintro e w5 ⟨rfl, rfl⟩
              obtain ⟨t, ht⟩ : ∃ t, (bits .and .u64 f 9007199254740992 != 0) = t := ⟨_, rfl⟩
              rw [ht]
              cases t
              case false =>
                have ht2 : (bits .and .u64 f 9007199254740992 == 0) = true := by simpa using ht
                have HV := Lib.hid (hv.trans ht2)
                clear ht ht2 hv
                go_wp2_with fail
                go_roundg ((flg s r).size - (pos + 1))
                case measure => omega
                case rel => exact ⟨pos + 1, by omega, rfl, rfl, HW.out.1, Lib.hid fun j hj => by
                  by_cases e : j = pos
                  · subst e; exact (HW.out.2.2.1.symm.trans HV.out)
                  · exact HFA.out j (by omega), HW.out.2.1⟩
              case true =>
                have ht2 : (bits .and .u64 f 9007199254740992 == 0) = false := by simpa using ht
                have HV := Lib.hid (HW.out.2.2.1.symm.trans (hv.trans ht2))
                clear ht ht2 hv
                as_aux_lemma =>
                  have r4 := H1.out.2.1.below HW.out.2.1 H1.out.2.1.lt
                  have r10 := H1.out.2.2.1.below HW.out.2.1 H1.out.2.2.1.lt
                  have c4 := r4.cellv (j := 0) (v := .int .i32 loc) rfl
                  have d0 := r10.cellv (j := 0) (v := .int .i32 0) rfl
                  have d1 := r10.cellv (j := 1) (v := .int .i32 0) rfl
                  have f0 := r10.frozen 0
                  have f1 := r10.frozen 1
                  have l4 := r4.lt
                  have l10 := r10.lt
                  have hT : F.answers W6.tape := HW6.out.tape ▸ HF.out
                  have hF' := answers_open hT
                  have HR10 := Lib.hid r10
                  clear r4 r10 hT
                  go_upto_region 70 with fail
                  generalize FmtStop.textOf _ = tx
                  generalize wrap32 (wrap32 (loc + ((r : Int) + 1)) + (pos : Int)) = x
                  have r10 := ((HR10.out.set 0 (.int .i32 x)).set 1 (.int .i32 1)).alloc (.cells #[.iface 21 (.int .i32 117)] 20)
                  have zz : W.heap.size ≤ ((W6.setCell ⟨b10, 0, none⟩ (.int .i32 x)).setCell ⟨b10, 1, none⟩ (.int .i32 1)).heap.size := by
                    have := HW6.out.size
                    simpa using this
                  have b7 : Below W.heap.size W ((((W6.setCell ⟨b10, 0, none⟩ (.int .i32 x)).setCell ⟨b10, 1, none⟩ (.int .i32 1)).alloc (.cells #[.iface 21 (.int .i32 117)] 20)).drew) := (((HW6.out.setCell H1.out.2.2.2 (.int .i32 x)).setCell H1.out.2.2.2 (.int .i32 1)).alloc zz _).drew
                  have r10' : RowAt ((((W6.setCell ⟨b10, 0, none⟩ (.int .i32 x)).setCell ⟨b10, 1, none⟩ (.int .i32 1)).alloc (.cells #[.iface 21 (.int .i32 117)] 20)).drew) b10 #[.int .i32 x, .int .i32 1] 61 := r10
                  clear r10 zz c4 d0 d1 f0 f1 l4 l10 hF' c23 lp hnx
                  generalize (((W6.setCell ⟨b10, 0, none⟩ (.int .i32 x)).setCell ⟨b10, 1, none⟩ (.int .i32 1)).alloc (.cells #[.iface 21 (.int .i32 117)] 20)).drew = W7 at b7 r10' ⊢
                  have P7 := HP.out.kp (Kp.below b7)
                  obtain ⟨_, _, c18, c25, _, lp⟩ := P7.at
                  have H7 := Lib.hid (And.intro b7 (And.intro r10' P7))
                  clear b7 r10' P7
                  go_upto_region 72 with fail
                  go_quiet ((go_at_call 31; exact quiet1 (fun V => where31 V)))
                  go_upto_region 73 with fail
                  refine reg_conv rg73 (by kernel_rfl) ?_
                  refine use73 (F := F) p b10 k mu he ms f x tx B (.slice none 0 0) 0 [] false (by kernel_rfl) (fun c a d v w h => by cases d <;> exact h) ((below_drewN H7.out.1 _).tape ▸ HF.out) (HH.out.later (below_drewN H7.out.1 _)) (by omega) (H7.out.2.2.kp (Kp.below (below_drewN (Below.refl _ _) _))) (H7.out.2.1.drewN _) ?_
                  intro a' W8 v' n' xs' e6 e7 e8 ed l8 k8 b8
                  have HN := Lib.hid (And.intro e6 (And.intro e7 (And.intro e8 (And.intro ed (And.intro l8 (And.intro k8 b8))))))
                  clear e6 e7 e8 ed l8 k8 b8
                  go_wp2_with fail
                  try rw [Exit.noGoto_ret]
                  obtain ⟨e6, e7, e8, ed, l8, k8, b8⟩ := HN.out
                  exact bodyPost_ret (results_tmp3 rfl _ _ _) ed ⟨true, false, v', n', xs', by rw [e6, e7, e8]; rfl, l8, (H7.out.2.2.kp (Kp.below (below_drewN (Below.refl _ _) _))).kp k8, ((below_drewN H7.out.1 _).mono HH.out.hB).trans b8, .inr ⟨rfl, .inl ⟨rfl, pos, hp, HV.out⟩⟩⟩
            by_cases h100 : rn = 100
            · subst h100
              have hlow : bt (flg s r) pos < 128 := by
                rcases Nat.lt_or_ge (bt (flg s r) pos) 128 with h | h
                · exact h
                · have := HW.out.2.2.2.2 h; omega
              obtain ⟨hbt, rfl⟩ := HW.out.2.2.2.1 hlow
              clear hbt hlow
              have hv : fa 100 f = (bits .and .u64 f 1125899906842624 == 0) := rfl
              go_wp2_with fail
              refine (has28 f _ _).mono ?_
              rintro e w5 ⟨rfl, rfl⟩
              obtain ⟨t, ht⟩ : ∃ t, (bits .and .u64 f 1125899906842624 != 0) = t := ⟨_, rfl⟩
              rw [ht]
              cases t
              case false =>
                have ht2 : (bits .and .u64 f 1125899906842624 == 0) = true := by simpa using ht
                have HV := Lib.hid (hv.trans ht2)
                clear ht ht2 hv
                go_wp2_with fail
                go_roundg ((flg s r).size - (pos + 1))
                case measure => omega
                case rel => exact ⟨pos + 1, by omega, rfl, rfl, HW.out.1, Lib.hid fun j hj => by
                  by_cases e : j = pos
                  · subst e; exact (HW.out.2.2.1.symm.trans HV.out)
                  · exact HFA.out j (by omega), HW.out.2.1⟩
              case true =>
                have ht2 : (bits .and .u64 f 1125899906842624 == 0) = false := by simpa using ht
                have HV := Lib.hid (HW.out.2.2.1.symm.trans (hv.trans ht2))
                clear ht ht2 hv
                as_aux_lemma =>
                  have r4 := H1.out.2.1.below HW.out.2.1 H1.out.2.1.lt
                  have r10 := H1.out.2.2.1.below HW.out.2.1 H1.out.2.2.1.lt
                  have c4 := r4.cellv (j := 0) (v := .int .i32 loc) rfl
                  have d0 := r10.cellv (j := 0) (v := .int .i32 0) rfl
                  have d1 := r10.cellv (j := 1) (v := .int .i32 0) rfl
                  have f0 := r10.frozen 0
                  have f1 := r10.frozen 1
                  have l4 := r4.lt
                  have l10 := r10.lt
                  have hT : F.answers W6.tape := HW6.out.tape ▸ HF.out
                  have hF' := answers_open hT
                  have HR10 := Lib.hid r10
                  clear r4 r10 hT
                  go_upto_region 70 with fail
                  generalize FmtStop.textOf _ = tx
                  generalize wrap32 (wrap32 (loc + ((r : Int) + 1)) + (pos : Int)) = x
                  have r10 := ((HR10.out.set 0 (.int .i32 x)).set 1 (.int .i32 1)).alloc (.cells #[.iface 21 (.int .i32 100)] 20)
                  have zz : W.heap.size ≤ ((W6.setCell ⟨b10, 0, none⟩ (.int .i32 x)).setCell ⟨b10, 1, none⟩ (.int .i32 1)).heap.size := by
                    have := HW6.out.size
                    simpa using this
                  have b7 : Below W.heap.size W ((((W6.setCell ⟨b10, 0, none⟩ (.int .i32 x)).setCell ⟨b10, 1, none⟩ (.int .i32 1)).alloc (.cells #[.iface 21 (.int .i32 100)] 20)).drew) := (((HW6.out.setCell H1.out.2.2.2 (.int .i32 x)).setCell H1.out.2.2.2 (.int .i32 1)).alloc zz _).drew
                  have r10' : RowAt ((((W6.setCell ⟨b10, 0, none⟩ (.int .i32 x)).setCell ⟨b10, 1, none⟩ (.int .i32 1)).alloc (.cells #[.iface 21 (.int .i32 100)] 20)).drew) b10 #[.int .i32 x, .int .i32 1] 61 := r10
                  clear r10 zz c4 d0 d1 f0 f1 l4 l10 hF' c23 lp hnx
                  generalize (((W6.setCell ⟨b10, 0, none⟩ (.int .i32 x)).setCell ⟨b10, 1, none⟩ (.int .i32 1)).alloc (.cells #[.iface 21 (.int .i32 100)] 20)).drew = W7 at b7 r10' ⊢
                  have P7 := HP.out.kp (Kp.below b7)
                  obtain ⟨_, _, c18, c25, _, lp⟩ := P7.at
                  have H7 := Lib.hid (And.intro b7 (And.intro r10' P7))
                  clear b7 r10' P7
                  go_upto_region 72 with fail
                  go_quiet ((go_at_call 31; exact quiet1 (fun V => where31 V)))
                  go_upto_region 73 with fail
                  refine reg_conv rg73 (by kernel_rfl) ?_
                  refine use73 (F := F) p b10 k mu he ms f x tx B (.slice none 0 0) 0 [] false (by kernel_rfl) (fun c a d v w h => by cases d <;> exact h) ((below_drewN H7.out.1 _).tape ▸ HF.out) (HH.out.later (below_drewN H7.out.1 _)) (by omega) (H7.out.2.2.kp (Kp.below (below_drewN (Below.refl _ _) _))) (H7.out.2.1.drewN _) ?_
                  intro a' W8 v' n' xs' e6 e7 e8 ed l8 k8 b8
                  have HN := Lib.hid (And.intro e6 (And.intro e7 (And.intro e8 (And.intro ed (And.intro l8 (And.intro k8 b8))))))
                  clear e6 e7 e8 ed l8 k8 b8
                  go_wp2_with fail
                  try rw [Exit.noGoto_ret]
                  obtain ⟨e6, e7, e8, ed, l8, k8, b8⟩ := HN.out
                  exact bodyPost_ret (results_tmp3 rfl _ _ _) ed ⟨true, false, v', n', xs', by rw [e6, e7, e8]; rfl, l8, (H7.out.2.2.kp (Kp.below (below_drewN (Below.refl _ _) _))).kp k8, ((below_drewN H7.out.1 _).mono HH.out.hB).trans b8, .inr ⟨rfl, .inl ⟨rfl, pos, hp, HV.out⟩⟩⟩
            by_cases h118 : rn = 118
            · subst h118
              have hlow : bt (flg s r) pos < 128 := by
                rcases Nat.lt_or_ge (bt (flg s r) pos) 128 with h | h
                · exact h
                · have := HW.out.2.2.2.2 h; omega
              obtain ⟨hbt, rfl⟩ := HW.out.2.2.2.1 hlow
              clear hbt hlow
              have hv : fa 118 f = (bits .and .u64 f 4503599627370496 == 0) := rfl
              go_wp2_with fail
              refine (has28 f _ _).mono ?_
              rintro e w5 ⟨rfl, rfl⟩
              obtain ⟨t, ht⟩ : ∃ t, (bits .and .u64 f 4503599627370496 != 0) = t := ⟨_, rfl⟩
              rw [ht]
              cases t
              case false =>
                have ht2 : (bits .and .u64 f 4503599627370496 == 0) = true := by simpa using ht
                have HV := Lib.hid (hv.trans ht2)
                clear ht ht2 hv
                go_wp2_with fail
                go_roundg ((flg s r).size - (pos + 1))
                case measure => omega
                case rel => exact ⟨pos + 1, by omega, rfl, rfl, HW.out.1, Lib.hid fun j hj => by
                  by_cases e : j = pos
                  · subst e; exact (HW.out.2.2.1.symm.trans HV.out)
                  · exact HFA.out j (by omega), HW.out.2.1⟩
              case true =>
                have ht2 : (bits .and .u64 f 4503599627370496 == 0) = false := by simpa using ht
                have HV := Lib.hid (HW.out.2.2.1.symm.trans (hv.trans ht2))
                clear ht ht2 hv
                as_aux_lemma =>
                  have r4 := H1.out.2.1.below HW.out.2.1 H1.out.2.1.lt
                  have r10 := H1.out.2.2.1.below HW.out.2.1 H1.out.2.2.1.lt
                  have c4 := r4.cellv (j := 0) (v := .int .i32 loc) rfl
                  have d0 := r10.cellv (j := 0) (v := .int .i32 0) rfl
                  have d1 := r10.cellv (j := 1) (v := .int .i32 0) rfl
                  have f0 := r10.frozen 0
                  have f1 := r10.frozen 1
                  have l4 := r4.lt
                  have l10 := r10.lt
                  have hT : F.answers W6.tape := HW6.out.tape ▸ HF.out
                  have hF' := answers_open hT
                  have HR10 := Lib.hid r10
                  clear r4 r10 hT
                  go_upto_region 70 with fail
                  generalize FmtStop.textOf _ = tx
                  generalize wrap32 (wrap32 (loc + ((r : Int) + 1)) + (pos : Int)) = x
                  have r10 := ((HR10.out.set 0 (.int .i32 x)).set 1 (.int .i32 1)).alloc (.cells #[.iface 21 (.int .i32 118)] 20)
                  have zz : W.heap.size ≤ ((W6.setCell ⟨b10, 0, none⟩ (.int .i32 x)).setCell ⟨b10, 1, none⟩ (.int .i32 1)).heap.size := by
                    have := HW6.out.size
                    simpa using this
                  have b7 : Below W.heap.size W ((((W6.setCell ⟨b10, 0, none⟩ (.int .i32 x)).setCell ⟨b10, 1, none⟩ (.int .i32 1)).alloc (.cells #[.iface 21 (.int .i32 118)] 20)).drew) := (((HW6.out.setCell H1.out.2.2.2 (.int .i32 x)).setCell H1.out.2.2.2 (.int .i32 1)).alloc zz _).drew
                  have r10' : RowAt ((((W6.setCell ⟨b10, 0, none⟩ (.int .i32 x)).setCell ⟨b10, 1, none⟩ (.int .i32 1)).alloc (.cells #[.iface 21 (.int .i32 118)] 20)).drew) b10 #[.int .i32 x, .int .i32 1] 61 := r10
                  clear r10 zz c4 d0 d1 f0 f1 l4 l10 hF' c23 lp hnx
                  generalize (((W6.setCell ⟨b10, 0, none⟩ (.int .i32 x)).setCell ⟨b10, 1, none⟩ (.int .i32 1)).alloc (.cells #[.iface 21 (.int .i32 118)] 20)).drew = W7 at b7 r10' ⊢
                  have P7 := HP.out.kp (Kp.below b7)
                  obtain ⟨_, _, c18, c25, _, lp⟩ := P7.at
                  have H7 := Lib.hid (And.intro b7 (And.intro r10' P7))
                  clear b7 r10' P7
                  go_upto_region 72 with fail
                  go_quiet ((go_at_call 31; exact quiet1 (fun V => where31 V)))
                  go_upto_region 73 with fail
                  refine reg_conv rg73 (by kernel_rfl) ?_
                  refine use73 (F := F) p b10 k mu he ms f x tx B (.slice none 0 0) 0 [] false (by kernel_rfl) (fun c a d v w h => by cases d <;> exact h) ((below_drewN H7.out.1 _).tape ▸ HF.out) (HH.out.later (below_drewN H7.out.1 _)) (by omega) (H7.out.2.2.kp (Kp.below (below_drewN (Below.refl _ _) _))) (H7.out.2.1.drewN _) ?_
                  intro a' W8 v' n' xs' e6 e7 e8 ed l8 k8 b8
                  have HN := Lib.hid (And.intro e6 (And.intro e7 (And.intro e8 (And.intro ed (And.intro l8 (And.intro k8 b8))))))
                  clear e6 e7 e8 ed l8 k8 b8
                  go_wp2_with fail
                  try rw [Exit.noGoto_ret]
                  obtain ⟨e6, e7, e8, ed, l8, k8, b8⟩ := HN.out
                  exact bodyPost_ret (results_tmp3 rfl _ _ _) ed ⟨true, false, v', n', xs', by rw [e6, e7, e8]; rfl, l8, (H7.out.2.2.kp (Kp.below (below_drewN (Below.refl _ _) _))).kp k8, ((below_drewN H7.out.1 _).mono HH.out.hB).trans b8, .inr ⟨rfl, .inl ⟨rfl, pos, hp, HV.out⟩⟩⟩
            · have b103 : ((rn : Int) == 103) = false := beq_false_of_ne (by omega)
              have g103 : ¬ (rn : Int) = 103 := by omega
              have b105 : ((rn : Int) == 105) = false := beq_false_of_ne (by omega)
              have g105 : ¬ (rn : Int) = 105 := by omega
              have b109 : ((rn : Int) == 109) = false := beq_false_of_ne (by omega)
              have g109 : ¬ (rn : Int) = 109 := by omega
              have b115 : ((rn : Int) == 115) = false := beq_false_of_ne (by omega)
              have g115 : ¬ (rn : Int) = 115 := by omega
              have b121 : ((rn : Int) == 121) = false := beq_false_of_ne (by omega)
              have g121 : ¬ (rn : Int) = 121 := by omega
              have b117 : ((rn : Int) == 117) = false := beq_false_of_ne (by omega)
              have g117 : ¬ (rn : Int) = 117 := by omega
              have b100 : ((rn : Int) == 100) = false := beq_false_of_ne (by omega)
              have g100 : ¬ (rn : Int) = 100 := by omega
              have b118 : ((rn : Int) == 118) = false := beq_false_of_ne (by omega)
              have g118 : ¬ (rn : Int) = 118 := by omega
              have HV : Hid (fa (bt (flg s r) pos) f = false) := Lib.hid (HW.out.2.2.1.symm.trans (by unfold fa; rw [if_neg (by omega), if_neg (by omega), if_neg (by omega), if_neg (by omega), if_neg (by omega)]))
              as_aux_lemma =>
                have r4 := H1.out.2.1.below HW.out.2.1 H1.out.2.1.lt
                have r10 := H1.out.2.2.1.below HW.out.2.1 H1.out.2.2.1.lt
                have c4 := r4.cellv (j := 0) (v := .int .i32 loc) rfl
                have d0 := r10.cellv (j := 0) (v := .int .i32 0) rfl
                have d1 := r10.cellv (j := 1) (v := .int .i32 0) rfl
                have f0 := r10.frozen 0
                have f1 := r10.frozen 1
                have l4 := r4.lt
                have l10 := r10.lt
                have hT : F.answers W6.tape := HW6.out.tape ▸ HF.out
                have hF' := answers_open hT
                have HR10 := Lib.hid r10
                clear r4 r10 hT
                go_upto_region 70 with fail
                generalize FmtStop.textOf _ = tx
                generalize wrap32 (wrap32 (loc + ((r : Int) + 1)) + (pos : Int)) = x
                have r10 := ((HR10.out.set 0 (.int .i32 x)).set 1 (.int .i32 1)).alloc (.cells #[.iface 21 (.int .i32 rn)] 20)
                have zz : W.heap.size ≤ ((W6.setCell ⟨b10, 0, none⟩ (.int .i32 x)).setCell ⟨b10, 1, none⟩ (.int .i32 1)).heap.size := by
                  have := HW6.out.size
                  simpa using this
                have b7 : Below W.heap.size W ((((W6.setCell ⟨b10, 0, none⟩ (.int .i32 x)).setCell ⟨b10, 1, none⟩ (.int .i32 1)).alloc (.cells #[.iface 21 (.int .i32 rn)] 20)).drew) := (((HW6.out.setCell H1.out.2.2.2 (.int .i32 x)).setCell H1.out.2.2.2 (.int .i32 1)).alloc zz _).drew
                have r10' : RowAt ((((W6.setCell ⟨b10, 0, none⟩ (.int .i32 x)).setCell ⟨b10, 1, none⟩ (.int .i32 1)).alloc (.cells #[.iface 21 (.int .i32 rn)] 20)).drew) b10 #[.int .i32 x, .int .i32 1] 61 := r10
                clear r10 zz c4 d0 d1 f0 f1 l4 l10 hF' c23 lp hnx
                generalize (((W6.setCell ⟨b10, 0, none⟩ (.int .i32 x)).setCell ⟨b10, 1, none⟩ (.int .i32 1)).alloc (.cells #[.iface 21 (.int .i32 rn)] 20)).drew = W7 at b7 r10' ⊢
                have P7 := HP.out.kp (Kp.below b7)
                obtain ⟨_, _, c18, c25, _, lp⟩ := P7.at
                have H7 := Lib.hid (And.intro b7 (And.intro r10' P7))
                clear b7 r10' P7
                go_upto_region 72 with fail
                go_quiet ((go_at_call 31; exact quiet1 (fun V => where31 V)))
                go_upto_region 73 with fail
                refine reg_conv rg73 (by kernel_rfl) ?_
                refine use73 (F := F) p b10 k mu he ms f x tx B (.slice none 0 0) 0 [] false (by kernel_rfl) (fun c a d v w h => by cases d <;> exact h) ((below_drewN H7.out.1 _).tape ▸ HF.out) (HH.out.later (below_drewN H7.out.1 _)) (by omega) (H7.out.2.2.kp (Kp.below (below_drewN (Below.refl _ _) _))) (H7.out.2.1.drewN _) ?_
                intro a' W8 v' n' xs' e6 e7 e8 ed l8 k8 b8
                have HN := Lib.hid (And.intro e6 (And.intro e7 (And.intro e8 (And.intro ed (And.intro l8 (And.intro k8 b8))))))
                clear e6 e7 e8 ed l8 k8 b8
                go_wp2_with fail
                try rw [Exit.noGoto_ret]
                obtain ⟨e6, e7, e8, ed, l8, k8, b8⟩ := HN.out
                exact bodyPost_ret (results_tmp3 rfl _ _ _) ed ⟨true, false, v', n', xs', by rw [e6, e7, e8]; rfl, l8, (H7.out.2.2.kp (Kp.below (below_drewN (Below.refl _ _) _))).kp k8, ((below_drewN H7.out.1 _).mono HH.out.hB).trans b8, .inr ⟨rfl, .inl ⟨rfl, pos, hp, HV.out⟩⟩⟩
          · have hnx : ∀ ty, (Instr.next (.pointer (some ⟨wo.heap.size, 0, none⟩)) true ty).run Tryz.prog wr = _ := fun ty => Lib.run_next_end_at wr wo.heap.size (flg s r) pos ty hit hp
            have bE : Below W.heap.size W wr := H1.out.1.trans (hbw.mono H1.out.1.size)
            have HE := Lib.hid bE
            clear bE hit hbw
            go_wp2_with fail
            rw [Exit.noGoto_ret]
            go_ret3
            exact ⟨false, false, _, _, _, rfl, HH.out.later HE.out, HP.out.kp (Kp.below HE.out), HE.out.mono HH.out.hB, .inr ⟨rfl, .inr ⟨rfl, fun i hi => HFA.out i (by omega)⟩⟩⟩

end Go.Proofs.YtkncfhhiookgdabGreatFmt
