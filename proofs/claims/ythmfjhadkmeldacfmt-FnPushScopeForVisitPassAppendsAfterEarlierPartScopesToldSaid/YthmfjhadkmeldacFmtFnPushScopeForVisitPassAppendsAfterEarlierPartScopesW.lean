import Derived.Test.YthmfjhadkmeldacFmtKit
import Derived.Test.YthmfjhadkmeldacFmtPsD
namespace Go.Proofs.YthmfjhadkmeldacFmt.fnPushScopeForVisitPassAppendsAfterEarlierPartScopes
open Go.ChangeShapes Go.WideShapes Go.ChangeAt Go.RowKit
set_option linter.unusedVariables false
set_option maxRecDepth 100000
set_option maxHeartbeats 2000000

open Go.Extern Go.Proofs.YthmfjhadkmeldacFmt
theorem row_setRow {w : World} {g : Nat} {old cs : Array Value} {t : TypeId} (h : RowAt w g old t) : RowAt (w.setRow g cs) g cs t := setRow_heap w g _ _ t _ h
theorem copied_get {cs cur : List Value} {i : Nat} {v : Value} (h : cs[i]? = some v) : ((cs ++ cur.drop cs.length).toArray)[i]? = some v := by
  have hl := (List.getElem?_eq_some_iff.1 h).1
  simp [List.getElem?_append_left hl, h]
set_option maxHeartbeats 8000000 in
theorem main (a0 : Option Addr) (n c0 : Nat) (z0 : List Int) (a1 : Option Addr) (c1 : Nat) (z1 : List Int) (e : Nat) (w : World) (hn : n ≤ 4096) (he : e ≤ 4096)
    (w0 : IsRow .u8 w a0 n c0 z0) (w1 : IsRow .i32 w a1 n c1 z1) :
    Calls Tryf.prog 3 #[.slice a0 n c0, .slice a1 n c1, .int .i64 e] w fun e w' => e = .returned (.bool true) ∧ Below w.heap.size w w' := by
  obtain ⟨i0, hi, hz0, hz1, hz2⟩ := info_parts info21
  obtain ⟨i1, gi, gz0, gz1, gz2⟩ := info_parts info26
  have W0 := Lib.hid w0
  have hneq := fun W => neq_nil W 23 21 a1 n c1 Tryf.underlying23
  have W1 := Lib.hid w1
  clear w0 w1
  go_enter Tryf.func3, Tryf.ntmps3
  go_wp2_with fail
  refine (zz4 _ _ _ _ _ _ _ _ (by omega) (by omega)).mono ?_
  rintro e1 w1 ⟨b, rfl, rfl, hb⟩
  cases b
  · go_wp2_with fail
    go_ret
    exact ⟨rfl, Below.refl _ _⟩
  clear hb
  go_upto_if 45 with fail
  go_cut [1] (fun v1 wx => ∃ o1 d1, v1 = .slice o1 n d1 ∧ Places wx w.heap.size o1 n (fun i => z1.getD i 0) ∧ Below w.heap.size w wx)
  case first =>
    rcases W1.out with ⟨rfl, rfl, rfl, rfl⟩ | ⟨x, rfl, h1, h2, h3, h4, h5⟩
    · go_wp2_with fail
      go_meet
      exact ⟨_, _, rfl, .inl rfl, Below.refl _ _⟩
    · have hla : x.block < w.heap.size ∨ n = 0 := by
        by_cases h0 : n = 0
        · exact .inr h0
        · have := cell_lt (h4 0 (by omega))
          unfold Addr.add at this
          exact .inl (by split at this <;> simpa using this)
      have HC := Lib.hid h4
      have HLA := Lib.hid hla
      have HL := Lib.hid (And.intro h1 (And.intro h3 h2))
      clear W1 h1 h2 h3 h4 h5 hla
      go_upto_region 11 with (at_make; refine wpList_make_full _ rfl _ _ 23 rfl w.heap.size 21 i0 _ 1 Tryf.underlying23 hi hz0 hz1 .i64 .i64 _ _ n rfl rfl rfl rfl (by rw [hz2]; omega) (by unfold maxLen; omega) (Nat.le_refl _) ?_)
      intro w2 hown hgrow
      obtain ⟨cur, hr0, hs0, _⟩ := RowAt.of_owns hown
      have hb1 : Below w.heap.size w w2 := (Below.refl _ _).grown hgrow (Nat.le_refl _) (fun k hk => by cases hk)
      have HR0 := Lib.hid (And.intro hr0 (And.intro hs0 hb1))
      clear hown hgrow hr0 hs0 hb1
      go_upto_region 11 with (fail)
      obtain ⟨cs, hcs⟩ : ∃ cs : List Value, cs = (List.range n).map fun i => .int .i32 (z1.getD i 0) := ⟨_, rfl⟩
      have hcl : cs.length = n := by rw [hcs]; simp
      have hcg : ∀ j v, cs[j]? = some v → j < n ∧ v = .int .i32 (z1.getD j 0) := fun j v hj => by
        have hl : j < n := by rw [← hcl]; exact (List.getElem?_eq_some_iff.1 hj).1
        refine ⟨hl, ?_⟩
        rw [hcs] at hj
        simp [hl] at hj
        exact hj.symm
      have hcm : ∀ v ∈ cs, v.oneCell' = true := fun v hv => by
        rw [hcs] at hv
        obtain ⟨j, _, rfl⟩ := List.mem_map.1 hv
        rfl
      have hcv : ∀ j, j < n → cs[j]? = some (.int .i32 (z1.getD j 0)) := fun j hj => by rw [hcs]; simp [hj]
      have HCS := Lib.hid (And.intro hcl (And.intro hcg (And.intro hcm hcv)))
      clear hcs hcl hcg hcm hcv
      go_wp2_with (refine wpList_copy_own rfl (.tmp 49) (.tmp 50) 23 23 rfl 21 Tryf.underlying23 (by kernel_rfl) w.heap.size 0 n n x n c1 (by simp [Act.eval, Act.put]) (by simp [Act.eval, Act.put]) cur 21 HR0.out.1 cs (by rw [HCS.out.1]; simp) (fun j v hj => by obtain ⟨q1, q2⟩ := HCS.out.2.1 j v hj; rw [q2]; exact later (HC.out j (by have := HL.out; omega)) HR0.out.2.2) (by rw [HCS.out.1]; have := HR0.out.2.1; omega) HCS.out.2.2.1 ?_)
      go_meet
      refine ⟨_, _, rfl, .inr ⟨w.heap.size, _, rfl, Nat.le_refl _, row_setRow HR0.out.1, fun i hi => ?_⟩, below_setRow HR0.out.2.2 (Nat.le_refl _) _⟩
      exact copied_get (HCS.out.2.2.2 i hi)
  case rest =>
    obtain ⟨o1, d1, rfl, hPl, hb⟩ := hcut
    have HPl := Lib.hid hPl
    have HB := Lib.hid hb
    have hsz := hb.size
    clear hPl hb W1 hneq hi hz0 hz1 hz2 i0
    have HK : Hid (∀ i, i < n → ∃ x, a0 = some x ∧ w.cell? (x.add i) = some (.int .u8 (z0.getD i 0))) := fun i hi => by
      rcases W0.out with ⟨rfl, rfl, rfl, rfl⟩ | ⟨x, rfl, h1, h2, h3, h4, h5⟩
      · omega
      · exact ⟨x, rfl, h4 i (by omega)⟩
    clear W0
    go_wp2_with (at_make; refine wpList_make_full _ rfl _ _ 25 rfl wc.heap.size 26 i1 _ 1 Tryf.underlying25 gi gz0 gz1 .i64 .i64 _ _ n rfl rfl rfl rfl (by rw [gz2]; omega) (by unfold maxLen; omega) (Nat.le_refl _) ?_)
    intro wa hown hgrow
    have hba : Below wc.heap.size wc wa := (Below.refl _ _).grown hgrow (Nat.le_refl _) (fun k hk => by cases hk)
    have hB0 : Hid (Blt wa wc.heap.size n 0 (fun i => z0.getD i 0) (fun _ => 0)) := ⟨(made1 hown).congr fun i _ => by simp [pUp], fun j hj => by omega⟩
    clear hown hgrow
    go_wp2_with fail
    go_loopw [10] (fun v10 wr => ∃ (k : Nat) (S : Nat → Nat), k ≤ n ∧ v10 = .int .i64 k ∧ Blt wr wc.heap.size n k (fun i => z0.getD i 0) S ∧ Below wc.heap.size wc wr) (fun v10 _ => n - (intOf v10).toNat)
    case atStart => exact ⟨0, _, Nat.zero_le _, rfl, hB0.out, hba⟩
    case round =>
      obtain ⟨k, S, hk, rfl, hB, hbr⟩ := hrel
      have HBl := Lib.hid hB
      have HBr := Lib.hid hbr
      have z := hbr.size
      clear hB hB0 hba hbr
      by_cases hlt : k < n
      · obtain ⟨x, rfl, hx⟩ := HK.out k hlt
        have hx' := later (later hx HB.out) (HBr.out)
        obtain ⟨m, hm⟩ : ∃ m, z0.getD k 0 = m := ⟨_, rfl⟩
        rw [hm] at hx'
        have q0 := HBl.out.cells.cell hlt
        unfold pUp at q0
        simp only [Nat.lt_irrefl, if_false] at q0
        have q1 := HBl.out.cells.frozen k
        have hlR := HBl.out.cells.lt
        have HS : Hid (Blt ((wr.setCell ⟨wc.heap.size, k, none⟩ (.pointer (some ⟨wr.heap.size, 0, none⟩))).alloc (.cells (sc1 m) 41)) wc.heap.size n (k + 1) (fun i => z0.getD i 0) (fun j => if j = k then wr.heap.size else S j)) := by
          have := HBl.out.step
          rw [hm] at this
          exact this
        clear hm hx
        go_wp2_with fail
        go_roundw
        case rel => exact ⟨k + 1, _, by omega, by go_num, HS.out, by have := HBr.out; go_grown⟩
        case measure => simp [intOf]; omega
      · obtain rfl : k = n := by omega
        clear hlt
        obtain ⟨wa, rfl⟩ : ∃ wa : World, wa = wr := ⟨_, rfl⟩
        go_wp2_with (at_make; refine wpList_make_full _ rfl _ _ 25 rfl wa.heap.size 26 i1 _ 1 Tryf.underlying25 gi gz0 gz1 .i64 .i64 _ _ e rfl rfl rfl rfl (by rw [gz2]; omega) (by unfold maxLen; omega) (Nat.le_refl _) ?_)
        intro wb hown hgrow
        have hbb : Below wa.heap.size wa wb := (Below.refl _ _).grown hgrow (Nat.le_refl _) (fun k hk => by cases hk)
        have hD0 : Hid (Cells wb wa.heap.size 26 e (pUp (fun _ => 0) 0)) := (made1 hown).congr fun i _ => by simp [pUp]
        clear hown hgrow
        go_wp2_with fail
        go_loopw [12] (fun v12 wr => ∃ (j : Nat) (D : Nat → Nat), j ≤ e ∧ v12 = .int .i64 j ∧ Cells wr wa.heap.size 26 e (pUp D j) ∧ Below wa.heap.size wa wr) (fun v12 _ => e - (intOf v12).toNat)
        case atStart => exact ⟨0, _, Nat.zero_le _, rfl, hD0.out, hbb⟩
        case round =>
          obtain ⟨j, D, hj, rfl, hC, hbr⟩ := hrel
          have HC := Lib.hid hC
          have HBj := Lib.hid hbr
          have zz := hbr.size
          clear hC hD0 hbb hbr
          by_cases hlt : j < e
          · have q0 := HC.out.cell hlt
            unfold pUp at q0
            simp only [Nat.lt_irrefl, if_false] at q0
            have q1 := HC.out.frozen j
            have hlO := HC.out.lt
            have HS : Hid (Cells (wr.setCell ⟨wa.heap.size, j, none⟩ (ptr wr.heap.size)) wa.heap.size 26 e (pUp (fun i => if i = j then wr.heap.size else D i) (j + 1))) := pUp_step HC.out
            go_wp2_with fail
            go_roundw
            case rel => exact ⟨j + 1, _, by omega, by go_num, HS.out.alloc _, by have := HBj.out; go_grown⟩
            case measure => simp [intOf]; omega
          · obtain rfl : j = e := by omega
            clear hlt
            have HSc : Hid (Blt wr wc.heap.size k k (fun i => z0.getD i 0) S) := HBl.out.kept HBj.out
            have HBw : Hid (Below w.heap.size w wr) := HB.out.trans ((HBr.out.mono hsz).trans (HBj.out.mono (by omega)))
            have HPw : Hid (Places wr w.heap.size o1 k (fun i => z1.getD i 0)) := (HPl.out.below HBr.out).below HBj.out
            have HOr := HC
            have hzw : w.heap.size ≤ wr.heap.size := HBw.out.size
            have hzo : wa.heap.size < wr.heap.size := HC.out.lt
            clear HBl HBr HBj HC HPl
            obtain ⟨wb2, rfl⟩ : ∃ wb2 : World, wb2 = wr := ⟨_, rfl⟩
            go_upto_region 25 with (fail)
            obtain ⟨q, hq⟩ : ∃ q, q = wb2.heap.size := ⟨_, rfl⟩
            have rq : RowAt (wb2.alloc (.cells P51 51)) q P51 51 := hq ▸ RowAt.new wb2 P51 51
            have bW : Below q wb2 (wb2.alloc (.cells P51 51)) := hq ▸ ((Below.refl _ _).alloc (Nat.le_refl _) _)
            have SW : (wb2.alloc (.cells P51 51)).heap.size = q + 1 := by rw [hq]; simp
            unfold P51 at rq bW SW
            rw [← hq]
            generalize (wb2.alloc (.cells #[.slice none 0 0, .slice none 0 0, .slice none 0 0, .slice none 0 0, .map none, .map none, .map none, .slice none 0 0, .bool false, .bool false, .bool false] 51)) = W at rq bW SW ⊢
            have HRQ : Hid (RowAt W q P51 51 ∧ Below q wb2 W ∧ q = wb2.heap.size) := ⟨rq, bW, hq⟩
            have lq := rq.lt
            clear rq bW hq SW
            go_upto_region 26 with (at_make; refine wpList_make_full _ rfl _ _ 25 rfl W.heap.size 26 i1 _ 1 Tryf.underlying25 gi gz0 gz1 .i64 .i64 _ _ j rfl rfl rfl rfl (by rw [gz2]; omega) (by unfold maxLen; omega) (Nat.le_refl _) ?_; intro w3 hown hgrow; have rq3 : RowAt w3 q P51 51 := HRQ.out.1.below ((Below.refl W.heap.size W).grown hgrow (Nat.le_refl _) (fun k hk => by cases hk)) lq; have c1 := rq3.cellv (j := 1) (v := .slice none 0 0) rfl; have f1 := rq3.frozen 1; have lq3 := rq3.lt; have H3 := Lib.hid (And.intro rq3 (And.intro ((HRQ.out.2.1.mono (Nat.le_refl _)).trans (((Below.refl W.heap.size W).grown hgrow (Nat.le_refl _) (fun k hk => by cases hk)).mono (Nat.le_of_lt lq))) (show Cells w3 W.heap.size 26 j (fun _ => .pointer none) from made1 (by rw [Nat.mul_one] at hown; exact hown)))); clear rq3 hown hgrow)
            have HQ : Hid (Cells (w3.setCell ⟨q, 1, none⟩ (.slice (some ⟨W.heap.size, 0, none⟩) j j)) W.heap.size 26 j (pUp D 0) ∧ RowAt (w3.setCell ⟨q, 1, none⟩ (.slice (some ⟨W.heap.size, 0, none⟩) j j)) q (P51.setIfInBounds 1 (.slice (some ⟨W.heap.size, 0, none⟩) j j)) 51 ∧ Below q wb2 (w3.setCell ⟨q, 1, none⟩ (.slice (some ⟨W.heap.size, 0, none⟩) j j))) :=
              ⟨(H3.out.2.2.set_other (by omega) 1 _).congr fun i _ => by simp [pUp], H3.out.1.set 1 _, H3.out.2.1.setCell (Nat.le_refl _) _⟩
            clear H3 c1 f1 lq3
            go_wp2_with fail
            go_loopw [14] (fun v14 wr => ∃ i : Nat, i ≤ j ∧ v14 = .int .i64 i ∧ Cells wr W.heap.size 26 j (pUp D i) ∧ RowAt wr q (P51.setIfInBounds 1 (.slice (some ⟨W.heap.size, 0, none⟩) j j)) 51 ∧ Below q wb2 wr) (fun v14 _ => j - (intOf v14).toNat)
            case atStart => exact ⟨0, Nat.zero_le _, rfl, HQ.out.1, HQ.out.2.1, HQ.out.2.2⟩
            case round =>
              obtain ⟨i, hi, rfl, hC, hr, hbr⟩ := hrel
              have HC := Lib.hid (And.intro hC (And.intro hr hbr))
              clear hC hr hbr HQ
              by_cases hlt : i < j
              · have o0 := HOr.out.below (HRQ.out.2.2 ▸ HC.out.2.2) hzo
                have q0 := o0.cell hlt
                unfold pUp at q0
                rw [if_pos hlt] at q0
                unfold ptr at q0
                have q1 : wr.cell? ⟨q, 1, none⟩ = some (.slice (some ⟨W.heap.size, 0, none⟩) j j) := HC.out.2.1.cellv (by rfl)
                obtain ⟨y, q2⟩ : ∃ y, wr.cell? ⟨W.heap.size, i, none⟩ = some y := ⟨_, HC.out.1.cell hlt⟩
                have q3 := HC.out.1.frozen i
                have l1 := HC.out.1.lt
                have l2 := HC.out.2.1.lt
                have HS : Hid (Cells (wr.setCell ⟨W.heap.size, i, none⟩ (.pointer (some ⟨D i, 0, none⟩))) W.heap.size 26 j (pUp D (i + 1))) := (HC.out.1.set i (ptr (D i))).congr fun l hl => by
                  unfold upd pUp
                  by_cases e : l = i
                  · subst e
                    rw [if_pos rfl, if_pos (by omega)]
                  · rw [if_neg e]
                    by_cases h2 : l < i
                    · rw [if_pos h2, if_pos (by omega)]
                    · rw [if_neg h2, if_neg (by omega)]
                have HS2 : Hid (RowAt (wr.setCell ⟨W.heap.size, i, none⟩ (.pointer (some ⟨D i, 0, none⟩))) q (P51.setIfInBounds 1 (.slice (some ⟨W.heap.size, 0, none⟩) j j)) 51 ∧ Below q wb2 (wr.setCell ⟨W.heap.size, i, none⟩ (.pointer (some ⟨D i, 0, none⟩)))) := ⟨HC.out.2.1.set_other (by omega) i _, HC.out.2.2.setCell (by show q ≤ W.heap.size; omega) _⟩
                clear o0
                go_wp2_with fail
                go_still_tail 10, (by kernel_rfl)
                go_wp2_with fail
                go_roundw
                case rel => exact ⟨i + 1, by omega, by go_num, HS.out, HS2.out.1, below_drewN HS2.out.2 1⟩
                case measure => simp [intOf]; omega
              · obtain rfl : i = j := by omega
                clear hlt
                obtain ⟨w4, rfl⟩ : ∃ w4 : World, w4 = wr := ⟨_, rfl⟩
                have hzQ : W.heap.size < w4.heap.size := HC.out.1.lt
                have HOW : Hid (w4.ownsRow W.heap.size 26 1 (.slice (some ⟨W.heap.size, 0, none⟩) i i) i (ptrs D i)) := owns_of_cells (HC.out.1.congr fun l hl => by unfold pUp; rw [if_pos hl]) (Nat.le_refl _) (by unfold maxLen; omega)
                have HRq := Lib.hid HC.out.2.1
                have B4 : Hid (Below w.heap.size w w4) := HBw.out.trans (HC.out.2.2.mono (by have := HRQ.out.2.2; omega))
                have HB4 : Hid (Below wb2.heap.size wb2 w4) := HRQ.out.2.2 ▸ HC.out.2.2
                have HS4 := Lib.hid (HSc.out.kept HB4.out)
                have HP4 := Lib.hid (HPw.out.below HB4.out)
                have HO4 : Hid (Cells w4 wa.heap.size 26 i (pUp D i)) := HOr.out.below HB4.out hzo
                have hqz : w.heap.size ≤ q := by have := HRQ.out.2.2; omega
                have HPK : Hid (Pk w w4 w.heap.size W.heap.size q wc.heap.size wa.heap.size k i o1 S D (fun i => z0.getD i 0) (fun i => z1.getD i 0)) := ⟨HOW.out, HRq.out, ⟨HS4.out, HP4.out, HO4.out⟩, B4.out⟩
                have hRO : wc.heap.size < W.heap.size ∧ wa.heap.size < W.heap.size := by have := HRQ.out.2.2; omega
                have HRO := Lib.hid hRO
                clear HC HSc HPw HOr HBw HB4 HRQ HOW HRq HS4 HP4 HO4 B4 hRO
                go_upto_region 31 with (fail)
                have hz4 : w.heap.size ≤ w4.heap.size := HPK.out.bel.size
                obtain ⟨mo, hmo⟩ : ∃ mo, mo = w4.heap.size := ⟨_, rfl⟩
                have PK1 := HPK.out.later ((Below.refl w4.heap.size w4).alloc (Nat.le_refl _) (.cells (sc1 6) 41)) hz4
                have lm : mo < (w4.alloc (.cells (sc1 6) 41)).heap.size := by rw [hmo]; simp
                have lB : W.heap.size < (w4.alloc (.cells (sc1 6) 41)).heap.size := by simp; omega
                unfold sc1 at PK1 lm lB
                rw [← hmo]
                generalize (w4.alloc (Obj.cells #[Value.pointer none, Value.pointer none, Value.slice none 0 0, Value.map none, Value.slice none 0 0, Value.slice none 0 0, Value.int IntKind.i32 0, Value.int IntKind.i32 0, Value.int IntKind.u32 0, Value.int IntKind.u32 0, Value.bool false, Value.bool false, Value.bool false, Value.bool false, Value.int IntKind.u8 0, Value.int IntKind.u8 6] 41)) = w5 at PK1 lm lB ⊢
                have HPK1 := Lib.hid PK1
                clear PK1 HPK hmo hzQ hz4
                go_wp2_with fail
                refine (new5 mo w5).mono ?_
                rintro e6 w6 ⟨p, cs, rfl, rp, c104, c105, c177, hpge, hb6⟩
                have HPK2 := Lib.hid (HPK1.out.later hb6 HPK1.out.bel.size)
                have HP := Lib.hid (And.intro rp (And.intro c104 (And.intro c105 c177)))
                have lp := rp.lt
                have lB6 : W.heap.size < w6.heap.size := Nat.lt_of_lt_of_le lB hb6.size
                have hwp : w.heap.size ≤ p := Nat.le_trans HPK1.out.bel.size hpge
                clear rp c104 c105 c177 hb6 HPK1 hpge
                go_wp2_with fail
                refine (ord6 p k wc.heap.size k S (fun i => z1.getD i 0) cs o1 d1 _ w6 HP.out.1 HP.out.2.2.2 hn (fun i hi => pUp_all HPK2.out.qk.sc.cells hi) (fun i hi => HPK2.out.qk.pl.addr hi)).mono ?_
                rintro e7 w7 ⟨rfl, g, r7, rec7, k7, b7⟩
                have HPK3 := Lib.hid (HPK2.out.kept k7 (b7 _ hwp (by omega)))
                have c7 := r7.cellv (set_get (j := 177) (u := .slice (some ⟨g, 0, none⟩) k k) HP.out.2.2.1 (by decide))
                have f7 := r7.frozen 105
                have H7 := Lib.hid (And.intro r7 (And.intro rec7 (b7 _ (Nat.le_refl _) (Nat.le_of_lt lp)).size))
                clear r7 rec7 k7 b7 HPK2
                go_wp2_with fail
                refine (part7 p q _ w7 c7 f7).mono ?_
                rintro e8 w8 ⟨rfl, hw8⟩
                have r8 := H7.out.1.set 105 (ptr q)
                have rec8 := H7.out.2.1.moved (v' := w7.setCell ⟨p, 105, none⟩ (ptr q)) fun es r => r.set_other (row_ne r H7.out.1 (by decide)) 105 _
                have HPK4 := HPK3.out.kept (v' := w7.setCell ⟨p, 105, none⟩ (ptr q)) (fun j es t r ht => r.set_other (row_ne r H7.out.1 ht) 105 _) ((Below.refl _ _).setCell hwp _)
                have sz8 : W.heap.size < (w7.setCell ⟨p, 105, none⟩ (ptr q)).heap.size := by have := H7.out.2.2; simp; omega
                rw [← hw8] at r8 rec8 HPK4 sz8
                have HPS : Hid (PS w8 W.heap.size p q g 0 k (ptr mo) i (ptrs D i)) := ⟨_, _, _, _, r8, fun _ => rfl, set_get (set_got HP.out.2.2.2) (by decide), set_get (set_get HP.out.2.1 (by decide)) (by decide), set_got (set_get HP.out.2.2.1 (by decide)), HPK4.part, set_got (v := .slice none 0 0) (by rfl), HPK4.own⟩
                have HRec := Lib.hid rec8
                have HQK := Lib.hid HPK4.qk
                have HBel := Lib.hid HPK4.bel
                clear r8 rec8 HPK4 HPK3 hw8 c7 f7 H7 HP lp lB lm lB6
                go_wp2_with fail
                go_loopw [17] (fun v17 wr => ∃ a : Nat, a ≤ k ∧ v17 = .int .i64 a ∧ PS wr W.heap.size p q g (a * 2) (k - a) (ptr (if a = 0 then mo else S (a - 1))) (i + a) (ptrs D i ++ ptrs S a) ∧ Kp W.heap.size w8 wr ∧ Below w.heap.size w wr ∧ W.heap.size < wr.heap.size) (fun v17 _ => k - (intOf v17).toNat)
                case atStart => exact ⟨0, Nat.zero_le _, rfl, by simpa [ptrs] using HPS.out, Kp.refl, HBel.out, sz8⟩
                case round =>
                  obtain ⟨a, ha, rfl, hPS, hKp, hBe, hzr⟩ := hrel
                  have HP1 := Lib.hid hPS
                  have HK1 := Lib.hid hKp
                  have HB1 := Lib.hid hBe
                  clear hPS hKp hBe
                  by_cases hlt : a < k
                  · obtain ⟨x, rfl, hx⟩ := HK.out a hlt
                    have hx' := later hx HB1.out
                    have HQ1 := HQK.out.kept HK1.out HRO.out.1 HRO.out.2
                    obtain ⟨L, rfl, _, hL⟩ := HQ1.pl.cell hlt
                    obtain ⟨m, hm⟩ : ∃ m, k - a = m + 1 := ⟨k - a - 1, by omega⟩
                    have hps := HP1.out
                    rw [hm] at hps
                    have rec1 := HRec.out.moved (v' := wr) fun es r => HK1.out _ _ _ r (.inl (by decide)) (by decide) (by decide)
                    have g0 := rec1.cell0 hlt (by decide)
                    have g1 := rec1.cell (j := 1) hlt (by decide)
                    have hs := (HQ1.sc.row a hlt).cellv (j := 15) (v := .int .u8 (z0.getD a 0)) rfl
                    have HC8 := Lib.hid (push8 W.heap.size p q g (a * 2) m (S a) (i + a) w.heap.size _ _ (z0.getD a 0) (z1.getD a 0) wr.drew hps g0 g1 hs (by omega) (by omega) (Nat.le_of_lt hzr) (by omega) hwp hqz)
                    obtain ⟨kd, hkd⟩ : ∃ kd, z0.getD a 0 = kd := ⟨_, rfl⟩
                    obtain ⟨lc, hlc⟩ : ∃ lc, z1.getD a 0 = lc := ⟨_, rfl⟩
                    simp only [hkd, hlc] at hx' hL HC8
                    have hMM := Lib.hid hm
                    clear hx HQ1 hm hps rec1 g0 g1 hs hkd hlc
                    go_wp2_with fail
                    go_still_tail 9, (by kernel_rfl)
                    go_wp2_with fail
                    refine HC8.out.mono ?_
                    rintro e9 w9 ⟨rfl, ps9, kp9, b9⟩
                    have B9 : Hid (Below w.heap.size w w9) := HB1.out.trans ⟨b9.os, b9.tape, b9.output, b9.size, b9.block⟩
                    have K9 : Hid (Kp W.heap.size w8 w9) := HK1.out.trans kp9
                    have P9 := Lib.hid ps9
                    have z9 : W.heap.size < w9.heap.size := Nat.lt_of_lt_of_le hzr b9.size
                    clear ps9 kp9 b9 hx' hL HC8
                    go_wp2_with fail
                    go_roundw
                    case rel =>
                      refine ⟨a + 1, by omega, by go_num, ?_, K9.out, B9.out, z9⟩
                      have h9 := P9.out
                      rw [List.append_assoc, ← ptrs_succ] at h9
                      have e1 : k - (a + 1) = m := by have := hMM.out; omega
                      rw [show (a + 1) * 2 = a * 2 + 2 by omega, e1, if_neg (by omega), show a + 1 - 1 = a by omega]
                      exact h9
                    case measure => simp [intOf]; omega
                  · obtain rfl : a = k := by omega
                    clear hlt
                    obtain ⟨wz, rfl⟩ : ∃ wz : World, wz = wr := ⟨_, rfl⟩
                    have HQ1 := Lib.hid (HQK.out.kept HK1.out HRO.out.1 HRO.out.2)
                    obtain ⟨cs', ds, V, o', r1, ho, c177, c104, c105, r2, d1', own⟩ := HP1.out
                    obtain ⟨ov, cap, rfl, hov⟩ := own_cells own
                    rw [Nat.sub_self] at c177
                    have p177 := r1.cellv c177
                    have p104 := r1.cellv c104
                    have q1 := r2.cellv d1'
                    have hGo : Hid (∀ l, l < i → ∃ G, ov = some ⟨G, 0, none⟩ ∧ wz.cell? ⟨G, l, none⟩ = some (ptr (D l))) := fun l hl => hov l _ (by rw [List.getElem?_append_left (by rw [ptrs_len]; exact hl)]; exact ptrs_get D i l hl)
                    have hGs : Hid (∀ l, l < a → ∃ G, ov = some ⟨G, 0, none⟩ ∧ wz.cell? ⟨G, i + l, none⟩ = some (ptr (S l))) := fun l hl => hov (i + l) _ (by rw [List.getElem?_append_right (by rw [ptrs_len]; omega), ptrs_len, show i + l - i = l by omega]; exact ptrs_get S a l hl)
                    have HO1 : Hid (∀ l, l < i → wz.cell? ⟨wa.heap.size, l, none⟩ = some (ptr (D l))) := fun l hl => pUp_all HQ1.out.od hl
                    have HS1 : Hid (∀ l, l < a → wz.cell? ⟨wc.heap.size, l, none⟩ = some (ptr (S l))) := fun l hl => pUp_all HQ1.out.sc.cells hl
                    obtain ⟨N, hN⟩ : ∃ N, i + a = N := ⟨_, rfl⟩
                    have hN' : (i : Int) + (a : Int) = (N : Int) := by omega
                    rw [hN] at q1
                    have hiN : i + a ≤ N := by omega
                    have pe := ptr_eql
                    have pn := ptr_neq
                    clear hN
                    clear cs' r1 ho c177 c104 c105 r2 d1' own hov HP1 HK1 HQ1 HQK HRec HPS
                    unfold ptr at p104 hGo hGs HO1 HS1
                    go_wp2_with fail
                    go_loopw [18] (fun v18 wr => ∃ l m : Nat, l ≤ i ∧ v18 = .int .i64 l ∧ wr = wz.drewN m) (fun v18 _ => i - (intOf v18).toNat)
                    case atStart => exact ⟨0, 0, Nat.zero_le _, rfl, rfl⟩
                    case round =>
                      obtain ⟨l, mm, hl, rfl, rfl⟩ := hrel
                      by_cases hlt : l < i
                      · obtain ⟨G, rfl, hG⟩ := hGo.out l hlt
                        have hO := HO1.out l hlt
                        have k1 : (l : Int) < (N : Int) := by omega
                        have k2 : (l : Int) < (i : Int) := by omega
                        clear hGs hN'
                        go_wp2_with fail
                        go_quiet (fail)
                        go_wp2_with fail
                        go_roundw
                        case rel => exact ⟨l + 1, _, by omega, by go_num, rfl⟩
                        case measure => simp [intOf]; omega
                      · obtain rfl : l = i := by omega
                        clear hlt hGo HO1
                        go_wp2_with fail
                        go_loopw [19] (fun v19 wr => ∃ l2 m2 : Nat, l2 ≤ a ∧ v19 = .int .i64 l2 ∧ wr = wz.drewN m2) (fun v19 _ => a - (intOf v19).toNat)
                        case atStart => exact ⟨0, mm, Nat.zero_le _, rfl, rfl⟩
                        case round =>
                          obtain ⟨l2, m2, hl2, rfl, rfl⟩ := hrel
                          by_cases hlt : l2 < a
                          · obtain ⟨G, rfl, hG⟩ := hGs.out l2 hlt
                            have hO := HS1.out l2 hlt
                            obtain ⟨d, hd⟩ : ∃ d, l + l2 = d := ⟨_, rfl⟩
                            rw [hd] at hG
                            have hd' : (l : Int) + (l2 : Int) = (d : Int) := by omega
                            have k1 : (d : Int) < (N : Int) := by omega
                            have k2 : (l2 : Int) < (a : Int) := by omega
                            clear hd hN'
                            go_wp2_with fail
                            go_quiet (fail)
                            go_wp2_with fail
                            go_roundw
                            case rel => exact ⟨l2 + 1, _, by omega, by go_num, rfl⟩
                            case measure => simp [intOf]; omega
                          · obtain rfl : l2 = a := by omega
                            clear hlt hGs hN'
                            by_cases h0 : l2 = 0
                            · subst h0
                              simp only [if_true] at p104
                              go_wp2_with fail
                              refine (len9 p _ _ _ (wz.drewN m2) p177).mono ?_
                              rintro e1 w1 ⟨rfl, rfl⟩
                              go_wp2_with fail
                              refine (cur10 p _ mo rfl (wz.drewN m2) p104).mono ?_
                              rintro e1 w1 ⟨rfl, rfl⟩
                              unfold ptr
                              go_wp2_with fail
                              go_ret
                              exact ⟨by simp, below_drewN HB1.out _⟩
                            · rw [if_neg h0] at p104
                              have h0' : ((l2 : Int) == 0) = false := by simp; omega
                              have hsl := HS1.out (l2 - 1) (by omega)
                              have hsub : ((l2 : Int) - 1).toNat = l2 - 1 := by omega
                              obtain ⟨d, hd⟩ : ∃ d, l2 - 1 = d := ⟨_, rfl⟩
                              rw [hd] at hsl p104
                              have hd' : (l2 : Int) - 1 = (d : Int) := by omega
                              have hdl : (d : Int) < (l2 : Int) := by omega
                              have hC : Hid (∀ m, Calls Tryf.prog 10 #[.pointer (some ⟨p, 0, none⟩)] (wz.drewN m) fun e w' => e = .returned (.pointer (some ⟨S d, 0, none⟩)) ∧ wz.drewN m = w') := fun m => cur10 p _ (S d) rfl (wz.drewN m) p104
                              clear hsub hd
                              go_wp2_with fail
                              refine (len9 p _ _ _ (wz.drewN m2) p177).mono ?_
                              rintro e1 w1 ⟨rfl, rfl⟩
                              unfold ptr at *
                              go_wp2_with fail
                              go_quiet (first | (go_at_call 10; exact (hC.out _).mono fun _ _ ⟨h1, h2⟩ => ⟨h1, _, h2.symm⟩))
                              go_wp2_with fail
                              go_ret
                              exact ⟨by simp, below_drewN (below_drewN HB1.out _) _⟩
theorem walk (F : Stop.Interp) (a0 : Option Addr) (len0 cap0 : Nat) (z0 : List Int) (a1 : Option Addr) (len1 cap1 : Nat) (z1 : List Int) (a2 : Int) (w : World) (hF : F.answers w.tape) (w0 : IsRow .u8 w a0 len0 cap0 z0) (w1 : IsRow .i32 w a1 len1 cap1 z1) (w2 : (Lit.int .i64 a2).wf = true) :
    Calls Tryf.prog 3 #[.slice a0 len0 cap0, .slice a1 len1 cap1, .int .i64 a2] w fun e w' => e = .returned (.bool true) ∧ Below w.heap.size w w' := by
  have hl0 : len0 ≤ 9223372036854775807 := by
    rcases w0 with ⟨_, h1, _⟩ | ⟨x, _, h1, h2, _⟩
    · omega
    · unfold maxLen at h2; omega
  have hl1 : len1 ≤ 9223372036854775807 := by
    rcases w1 with ⟨_, h1, _⟩ | ⟨x, _, h1, h2, _⟩
    · omega
    · unfold maxLen at h2; omega
  by_cases h : len0 ≤ 4096 ∧ len1 ≤ 4096 ∧ 0 ≤ a2 ∧ a2 ≤ 4096 ∧ len0 = len1
  · obtain ⟨h1, h2, h3, h4, rfl⟩ := h
    obtain ⟨e, rfl⟩ : ∃ e : Nat, a2 = (e : Int) := ⟨a2.toNat, by omega⟩
    exact main a0 len0 cap0 z0 a1 cap1 z1 e w h1 (by omega) w0 w1
  · clear w0 w1
    have W2 := Lib.hid w2
    clear w2
    have HH := Lib.hid h
    clear h
    go_enter Tryf.func3, Tryf.ntmps3
    go_wp2_with fail
    refine (zz4 _ _ _ _ _ _ _ _ hl0 hl1).mono ?_
    rintro e w1 ⟨b, rfl, rfl, hb⟩
    cases b
    · go_wp2_with fail
      go_ret
      exact ⟨rfl, Below.refl _ _⟩
    · clear hb
      by_cases hA : len0 ≤ 4096
      · by_cases hB : len1 ≤ 4096
        · by_cases hC : a2 < 0
          · go_wp2_with fail
            go_ret
            exact ⟨rfl, Below.refl _ _⟩
          · by_cases hD : 4096 < a2
            · go_wp2_with fail
              go_ret
              exact ⟨rfl, Below.refl _ _⟩
            · have hn : ¬ len0 = len1 := by have := HH.out; omega
              have hn' : ((len0 : Int) != (len1 : Int)) = true := by simp; omega
              go_wp2_with fail
              go_ret
              exact ⟨rfl, Below.refl _ _⟩
        · have hB' : 4096 < len1 := by omega
          go_wp2_with fail
          go_ret
          exact ⟨rfl, Below.refl _ _⟩
      · have hA' : 4096 < len0 := by omega
        go_wp2_with fail
        go_ret
        exact ⟨rfl, Below.refl _ _⟩

end Go.Proofs.YthmfjhadkmeldacFmt.fnPushScopeForVisitPassAppendsAfterEarlierPartScopes
