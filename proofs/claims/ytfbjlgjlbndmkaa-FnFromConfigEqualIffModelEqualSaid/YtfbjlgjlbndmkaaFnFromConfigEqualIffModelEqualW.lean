import Derived.Test.YtfbjlgjlbndmkaaKit
import Derived.Test.YtfbjlgjlbndmkaaFcQ
import Derived.Deep.WholeRow
namespace Go.Proofs.Ytfbjlgjlbndmkaa.fnFromConfigEqualIffModelEqual
open Go.ChangeShapes Go.WideShapes Go.ChangeAt Go.RowKit
set_option linter.unusedVariables false
set_option maxRecDepth 100000
set_option maxHeartbeats 2000000

theorem wpList_want {P : Program} {ops : Array Oper} {rest : List Oper} {o : Oper} {a : Act} {w : World} {Q : Exit → Act → World → Prop} (hw : Region.wanted o (yielded ops a.tmps) = true) (h : o.wp P a w (wpList P ops Q rest) Q) : wpList P ops Q (o :: rest) a w := by
  unfold wpList
  rw [if_pos hw]
  exact .inl h
theorem results_slot {P : Program} {fn : Func} {t : Tmp} {tmps : Array Value} {v : Value} {w : World} (h : fn.results = #[.tmp t]) (h2 : tmps.getD t undef = v) : (results fn tmps).run P w = .ok v w := by rw [results_tmp h, h2]
noncomputable def rg3_9 : List Oper := rgAt Try.f3 9
theorem sel3_9 : Region.noSelect rg3_9.toArray = true := by kernel_rfl
set_option maxHeartbeats 8000000 in
theorem walk (e : ByteArray) (f o m B : Int) (mn rn : Bool) (a : Option Addr) (n c : Nat) (e' : ByteArray) (f' o' m' B' : Int) (mn' rn' : Bool) (a' : Option Addr) (n' c' : Nat) (Sa Sb : Nat → ByteArray) (w : World)
    (hB : 0 ≤ B ∧ B < 65536) (hB' : 0 ≤ B' ∧ B' < 65536) (hl1 : IsStrs w a n c Sa) (hl2 : IsStrs w a' n' c' Sb) :
    Calls Try.prog 3 #[.agg (CV e f o m B mn rn a n c), .agg (CV e' f' o' m' B' mn' rn' a' n' c')] w fun en w' => en = .returned (.bool true) ∧ Below w.heap.size w w' := by
  have hm0 := m3_start e f o m B mn rn a n c e' f' o' m' B' mn' rn' a' n' c' Sa Sb w hl1 hl2
  have HB := Lib.hid (And.intro hB hB')
  clear hB hB'
  go_enter Try.func3, Try.ntmps3
  go_upto_region 1 with (fail)
  obtain ⟨W0, hW0⟩ : ∃ W0, W0 = (w.alloc (.cells (CV e f o m B mn rn a n c) 26)).alloc (.cells (CV e' f' o' m' B' mn' rn' a' n' c') 26) := ⟨_, rfl⟩
  obtain ⟨b, hb⟩ : ∃ b, b = w.heap.size := ⟨_, rfl⟩
  obtain ⟨b', hb'⟩ : ∃ b', b' = w.heap.size + 1 := ⟨_, rfl⟩
  rw [← hW0] at hm0 ⊢
  rw [← hb'] at hm0 ⊢
  rw [show M3 w w.heap.size b' e f o m B mn rn a n c e' f' o' m' B' mn' rn' a' n' c' Sa Sb W0 = M3 w b b' e f o m B mn rn a n c e' f' o' m' B' mn' rn' a' n' c' Sa Sb W0 by rw [hb]] at hm0
  try rw [← hb]
  have M := Lib.hid hm0
  clear hm0 hW0 hb hb' hl1 hl2
  go_wp2_with (first | (refine wpList_load_mid rfl 26 _ rfl b 0 rfl (CV e f o m B mn rn a n c).toList _ (range_of M.out.r1) Try.underlying26 rfl (by kernel_rfl) ?_) | (refine wpList_load_mid rfl 26 _ rfl b' 0 rfl (CV e' f' o' m' B' mn' rn' a' n' c').toList _ (range_of M.out.r2) Try.underlying26 rfl (by kernel_rfl) ?_))
  refine (bytes4 e f o m B mn rn a n c e' f' o' m' B' mn' rn' a' n' c' Sa Sb W0 M.out.l1 M.out.l2).mono ?_
  rintro e1 w1 ⟨r, rfl, hb1, hr⟩
  have M1 := Lib.hid (M.out.later hb1)
  cases r with
  | false =>
    clear hr hb1
    go_wp2
    go_ret
    exact ⟨rfl, M1.out.below⟩
  | true =>
  have HS := Lib.hid (hr rfl)
  clear hr hb1
  go_wp2_with (refine wpList_load_mid rfl 26 _ rfl b 0 rfl (CV e f o m B mn rn a n c).toList _ (range_of M1.out.r1) Try.underlying26 rfl (by kernel_rfl) ?_)
  refine (bytes5 e f o m B mn rn a n c Sa w1 M1.out.l1 HS.out.1).mono ?_
  rintro e2 w2 ⟨z, rfl, hb2⟩
  have M2 := Lib.hid (M1.out.later hb2)
  clear hb2
  by_cases hz : 1048576 < z
  · go_wp2
    go_ret
    exact ⟨rfl, M2.out.below⟩
  have hzd : decide (1048576 < z) = false := by simpa using hz
  go_wp2_with (refine wpList_want (by kernel_rfl) (wp_load_mid 26 _ rfl b' 0 rfl (CV e' f' o' m' B' mn' rn' a' n' c').toList _ (range_of M2.out.r2) Try.underlying26 rfl (by kernel_rfl) ?_))
  clear hzd
  refine (bytes5 e' f' o' m' B' mn' rn' a' n' c' Sb w2 M2.out.l2 HS.out.2).mono ?_
  rintro e3 w3 ⟨z', rfl, hb3⟩
  have M3' := Lib.hid (M2.out.later hb3)
  clear hb3
  by_cases hz' : 1048576 < z'
  · go_wp2
    go_ret
    exact ⟨rfl, M3'.out.below⟩
  go_wp2_with (refine wpList_load_mid rfl 26 _ rfl b 0 rfl (CV e f o m B mn rn a n c).toList _ (range_of M3'.out.r1) Try.underlying26 rfl (by kernel_rfl) ?_)
  refine (copy6 e f o m B mn rn a n c Sa w3 HS.out.1.2.1 M3'.out.l1).mono ?_
  rintro e4 w4 ⟨a1, rfl, hl4, hb4, hn4⟩
  have m4 := M3'.out.later hb4
  have M4 := Lib.hid (m4.copy1 a1 hl4 (fun x hx => by have := hn4 x hx; have := M3'.out.r1.lt; have := M3'.out.r2.lt; omega))
  have r4 := Lib.hid m4.r1
  clear hl4 hb4 hn4 m4
  go_wp2_with (first | (refine wpList_store_row rfl 26 _ _ rfl b (CV e f o m B mn rn a1 n n) (by rfl) (by rfl) 26 _ r4.out (by kernel_rfl) (by kernel_rfl) (by kernel_rfl) ?_) | (refine wpList_load_mid rfl 26 _ rfl b' 0 rfl (CV e' f' o' m' B' mn' rn' a' n' c').toList _ (range_of M4.out.r2) Try.underlying26 rfl (by kernel_rfl) ?_))
  refine (copy6 e' f' o' m' B' mn' rn' a' n' c' Sb _ HS.out.2.2.1 M4.out.l2).mono ?_
  rintro e5 w5 ⟨a2, rfl, hl5, hb5, hn5⟩
  have m5 := M4.out.later hb5
  have M5 := Lib.hid (m5.copy2 a2 hl5 (fun x hx => by have := hn5 x hx; have := M4.out.r1.lt; have := M4.out.r2.lt; omega))
  have r5 := Lib.hid m5.r2
  clear hl5 hb5 hn5 m5
  go_wp2_with (first | (refine wpList_store_row rfl 26 _ _ rfl b' (CV e' f' o' m' B' mn' rn' a2 n' n') (by rfl) (by rfl) 26 _ r5.out (by kernel_rfl) (by kernel_rfl) (by kernel_rfl) ?_) | (refine wpList_load_mid rfl 26 _ rfl b 0 rfl (CV e f o m B mn rn a1 n n).toList _ (range_of M5.out.r1) Try.underlying26 rfl (by kernel_rfl) ?_))
  refine (build7 e f o m B mn rn a1 n n Sa _ HB.out.1.1 HB.out.1.2 HS.out.1.2.1 M5.out.l1).mono ?_
  rintro e6 w6 ⟨a3, mp, rp, rfl, hl6, hx6, hy6, hmp, hrp, hb6⟩
  have M6 := Lib.hid ((M5.out.later hb6).alloc (.cells (A66 e f o m B (.slice a3 n n) (rxV mp) (rxV rp)) 66))
  have HM := Lib.hid (And.intro hmp hrp)
  have hbz6 : Below w6.heap.size w6 (w6.alloc (.cells (A66 e f o m B (.slice a3 n n) (rxV mp) (rxV rp)) 66)) := (Below.refl _ _).alloc (Nat.le_refl _) _
  have K6 := Lib.hid (And.intro (strs_later hl6 hbz6 (Nat.le_refl _)) (And.intro (rx_later hx6 hbz6 (Nat.le_refl _)) (rx_later hy6 hbz6 (Nat.le_refl _))))
  have R6 := Lib.hid (RowAt.new w6 (A66 e f o m B (.slice a3 n n) (rxV mp) (rxV rp)) 66)
  clear hl6 hb6 hx6 hy6 hmp hrp hbz6
  go_upto_region 8 with (refine wpList_store_row rfl 66 _ _ rfl _ (A66 e f o m B (.slice a3 n n) (rxV mp) (rxV rp)) (by rfl) (by rfl) 66 PZ66 (heap_alloc_new _ _) (by kernel_rfl) (by kernel_rfl) (a66_one e f o m B a3 n _ _) ?_)
  rw [World.setRow_alloc_new]
  obtain ⟨p, hp⟩ : ∃ p, p = w6.heap.size := ⟨_, rfl⟩
  obtain ⟨W6, hW6⟩ : ∃ W6, W6 = w6.alloc (.cells (A66 e f o m B (.slice a3 n n) (rxV mp) (rxV rp)) 66) := ⟨_, rfl⟩
  rw [← hW6] at M6 K6 R6 ⊢
  rw [← hp] at R6 ⊢
  clear hW6 hp
  go_wp2_with (refine wpList_load_mid rfl 26 _ rfl b' 0 rfl (CV e' f' o' m' B' mn' rn' a2 n' n').toList _ (range_of M6.out.r2) Try.underlying26 rfl (by kernel_rfl) ?_)
  refine (build7 e' f' o' m' B' mn' rn' a2 n' n' Sb _ HB.out.2.1 HB.out.2.2 HS.out.2.2.1 M6.out.l2).mono ?_
  rintro e7 w7 ⟨a4, mp', rp', rfl, hl7, hx7, hy7, hmp, hrp, hb7⟩
  have M7 := Lib.hid ((M6.out.later hb7).alloc (.cells (A66 e' f' o' m' B' (.slice a4 n' n') (rxV mp') (rxV rp')) 66))
  have HM' := Lib.hid (And.intro hmp hrp)
  have hbz7 : Below w7.heap.size w7 (w7.alloc (.cells (A66 e' f' o' m' B' (.slice a4 n' n') (rxV mp') (rxV rp')) 66)) := (Below.refl _ _).alloc (Nat.le_refl _) _
  have hbz : Below W6.heap.size W6 (w7.alloc (.cells (A66 e' f' o' m' B' (.slice a4 n' n') (rxV mp') (rxV rp')) 66)) := hb7.alloc hb7.size _
  have K7 := Lib.hid (And.intro (strs_later hl7 hbz7 (Nat.le_refl _)) (And.intro (rx_later hx7 hbz7 (Nat.le_refl _)) (rx_later hy7 hbz7 (Nat.le_refl _))))
  have K8 := Lib.hid (And.intro (strs_later K6.out.1 hbz (Nat.le_refl _)) (And.intro (rx_later K6.out.2.1 hbz (Nat.le_refl _)) (And.intro (rx_later K6.out.2.2 hbz (Nat.le_refl _)) (R6.out.below hbz R6.out.lt))))
  have R7 := Lib.hid (RowAt.new w7 (A66 e' f' o' m' B' (.slice a4 n' n') (rxV mp') (rxV rp')) 66)
  clear hl7 hb7 hx7 hy7 hmp hrp hbz7 hbz
  go_wp2_with (refine wpList_store_row rfl 66 _ _ rfl _ (A66 e' f' o' m' B' (.slice a4 n' n') (rxV mp') (rxV rp')) (by rfl) (by rfl) 66 PZ66 (heap_alloc_new _ _) (by kernel_rfl) (by kernel_rfl) (a66_one e' f' o' m' B' a4 n' _ _) ?_)
  rw [World.setRow_alloc_new]
  obtain ⟨p', hp'⟩ : ∃ p', p' = w7.heap.size := ⟨_, rfl⟩
  obtain ⟨W7, hW7⟩ : ∃ W7, W7 = w7.alloc (.cells (A66 e' f' o' m' B' (.slice a4 n' n') (rxV mp') (rxV rp')) 66) := ⟨_, rfl⟩
  rw [← hW7] at M7 K7 K8 R7 ⊢
  rw [← hp'] at R7 ⊢
  clear hW7 hp'
  refine reg_conv rg3_9 (by kernel_rfl) ?_
  refine held_begin (N := 8) (S := fun W' => Below W7.heap.size W7 W') (by kernel_rfl) (by kernel_rfl) rfl (below_drewN (Below.refl _ _) 1) (fun hS => ?_)
  refine held_at 0 (d := some 27) (v := .agg (A66 e f o m B (.slice a3 n n) (rxV mp) (rxV rp))) (by kernel_rfl) (by kernel_rfl) sel3_9 (by kernel_rfl) (by kernel_rfl) (fun _ _ _ h => h) (by kernel_rfl) (fun w' hS => run_ld (T := 66) (x := .tmp 5) (by kernel_rfl) (by kernel_rfl) (all66 w' e f o m B a3 n _ _ (K8.out.2.2.2.below hS K8.out.2.2.2.lt))) hS rfl ?_
  refine held_at 1 (d := some 28) (v := .agg (A66 e' f' o' m' B' (.slice a4 n' n') (rxV mp') (rxV rp'))) (by kernel_rfl) (by kernel_rfl) sel3_9 (by kernel_rfl) (by kernel_rfl) (fun _ _ _ h => h) (by kernel_rfl) (fun w' hS => run_ld (T := 66) (x := .tmp 6) (by kernel_rfl) (by kernel_rfl) (all66 w' e' f' o' m' B' a4 n' _ _ (R7.out.below hS R7.out.lt))) hS rfl ?_
  refine held_at 3 (d := some 30) (v := .agg (CV e f o m B mn rn a1 n n)) (by kernel_rfl) (by kernel_rfl) sel3_9 (by kernel_rfl) (by kernel_rfl) (fun _ _ _ h => h) (by kernel_rfl) (fun w' hS => run_ld (T := 26) (x := .tmp 2) (by kernel_rfl) (by kernel_rfl) (run_loadVar_mid w' b 0 26 _ _ (range_of (M7.out.r1.below hS M7.out.r1.lt)) Try.underlying26 rfl (by kernel_rfl))) hS rfl ?_
  refine held_at 4 (d := some 31) (v := .agg (CV e' f' o' m' B' mn' rn' a2 n' n')) (by kernel_rfl) (by kernel_rfl) sel3_9 (by kernel_rfl) (by kernel_rfl) (fun _ _ _ h => h) (by kernel_rfl) (fun w' hS => run_ld (T := 26) (x := .tmp 3) (by kernel_rfl) (by kernel_rfl) (run_loadVar_mid w' b' 0 26 _ _ (range_of (M7.out.r2.below hS M7.out.r2.lt)) Try.underlying26 rfl (by kernel_rfl))) hS rfl ?_
  have hpl := plain e e' f f' o o' m m' B B' mn rn mn' rn' a1 a2 n n' n n' Sa Sb HB.out.1 HB.out.2
  have hR1 : (eqS e e' f f' o o' m m' B B' && ((mp.isNone == mp'.isNone) && ((rp.isNone == rp'.isNone) && eqL n n' Sa Sb))) = modEq e f o m B mn rn a1 n n e' f' o' m' B' mn' rn' a2 n' n' Sa Sb := by
    rw [HM.out.1, HM.out.2, HM'.out.1, HM'.out.2]
    exact hpl
  clear hpl
  have C8 : ∀ W', Below W7.heap.size W7 W' → Calls Try.prog 8 #[.agg (A66 e f o m B (.slice a3 n n) (rxV mp) (rxV rp)), .agg (A66 e' f' o' m' B' (.slice a4 n' n') (rxV mp') (rxV rp'))] W' fun en w' => en = .returned (.bool (modEq e f o m B mn rn a1 n n e' f' o' m' B' mn' rn' a2 n' n' Sa Sb)) ∧ Below W'.heap.size W' w' := fun W' hS =>
    (zzEq8 e e' f f' o o' m m' B B' a3 a4 n n' mp mp' rp rp' Sa Sb W' (rx_later K8.out.2.1 hS (Nat.le_refl _)) (rx_later K7.out.2.1 hS (Nat.le_refl _)) (rx_later K8.out.2.2.1 hS (Nat.le_refl _)) (rx_later K7.out.2.2 hS (Nat.le_refl _)) HS.out.1.2.1 HS.out.2.2.1 (strs_later K8.out.1 hS (Nat.le_refl _)) (strs_later K7.out.1 hS (Nat.le_refl _))).mono
      fun en w' ⟨h1, h2⟩ => ⟨h1.trans (ret_bool hR1), h2⟩
  have C9 : ∀ W', Below W7.heap.size W7 W' → Calls Try.prog 9 #[.agg (CV e f o m B mn rn a1 n n), .agg (CV e' f' o' m' B' mn' rn' a2 n' n')] W' fun en w' => en = .returned (.bool (modEq e f o m B mn rn a1 n n e' f' o' m' B' mn' rn' a2 n' n' Sa Sb)) ∧ Below W'.heap.size W' w' := fun W' hS =>
    mod9 e f o m B mn rn a1 n n e' f' o' m' B' mn' rn' a2 n' n' Sa Sb W' HB.out.1 HB.out.2 HS.out.1.2.1 HS.out.2.2.1 (strs_later M7.out.l1 hS (Nat.le_refl _)) (strs_later M7.out.l2 hS (Nat.le_refl _))
  have H8 := Lib.hid C8
  have H9 := Lib.hid C9
  have HB7 := Lib.hid M7.out.below
  clear C8 C9 hR1 M M1 M2 M3' M4 M5 M6 M7 K6 K7 K8 R6 R7 HS HM HM' HB r4 r5
  generalize modEq e f o m B mn rn a1 n n e' f' o' m' B' mn' rn' a2 n' n' Sa Sb = R at H8 H9
  refine held_ready1 2 (by kernel_rfl) (by kernel_rfl) (by kernel_rfl) ?_
  refine wp_enter (d := some 29) (f := 8) (args := #[.agg (A66 e f o m B (.slice a3 n n) (rxV mp) (rxV rp)), .agg (A66 e' f' o' m' B' (.slice a4 n' n') (rxV mp') (rxV rp'))]) (by kernel_rfl) (by kernel_rfl) ?_
  refine (H8.out _ hS).mono ?_
  rintro e8 w8 ⟨rfl, hb8⟩
  have hS1 := hS.trans (hb8.mono hS.size)
  refine ⟨_, rfl, hS1, ?_⟩
  refine held_ready1 5 (by kernel_rfl) (by kernel_rfl) (by kernel_rfl) ?_
  refine wp_enter (d := some 32) (f := 9) (args := #[.agg (CV e f o m B mn rn a1 n n), .agg (CV e' f' o' m' B' mn' rn' a2 n' n')]) (by kernel_rfl) (by kernel_rfl) ?_
  refine (H9.out _ hS1).mono ?_
  rintro e9 w9 ⟨rfl, hb9⟩
  have hS2 := hS1.trans (hb9.mono hS1.size)
  refine ⟨_, rfl, hS2, ?_⟩
  refine held_at 6 (d := some 33) (v := .bool (R == R)) (by kernel_rfl) (by kernel_rfl) sel3_9 (by kernel_rfl) (by kernel_rfl) (fun _ _ _ h => h) (by kernel_rfl) (fun _ _ => by kernel_rfl) hS2 rfl ?_
  refine held_at 7 (d := some 4) (v := .bool (R == R)) (by kernel_rfl) (by kernel_rfl) sel3_9 (by kernel_rfl) (by kernel_rfl) (fun _ _ _ h => h) (by kernel_rfl) (fun _ _ => by kernel_rfl) hS2 rfl ?_
  refine ⟨(by kernel_rfl), ?_⟩
  have HE := Lib.hid (HB7.out.trans (hS2.mono HB7.out.size))
  clear hS hS1 hS2 hb8 hb9 H8 H9 HB7
  go_wp2_with fail
  refine bodyPost_ret (v := .bool (R == R)) (results_slot (t := 4) (by kernel_rfl) (by kernel_rfl)) (by kernel_rfl) ⟨ret_bool (by simp), HE.out⟩

end Go.Proofs.Ytfbjlgjlbndmkaa.fnFromConfigEqualIffModelEqual
