import Derived.Test.YtmbbabikbmkjpabKit
import Derived.Test.YtmbbabikbmkjpabCvC
namespace Go.Proofs.Ytmbbabikbmkjpab.fnConvertSymbolUseToCallMovesOneUseToOneCall
open Go.ChangeShapes Go.WideShapes Go.ChangeAt Go.RowKit
set_option linter.unusedVariables false
set_option maxRecDepth 100000
set_option maxHeartbeats 2000000

set_option maxHeartbeats 8000000 in
theorem main_urf (s i : Int) (use calls singles ou oc : Int) (w : World) (hs : 0 ≤ s) (hs1 : s ≤ 4294967295) (hu : 0 ≤ use) (hu1 : use ≤ 4294967295) (hus : use ≠ 1) (hc : 0 ≤ calls) (hc1 : calls ≤ 4294967295) (hd : 0 ≤ singles) (hd1 : singles ≤ 4294967295) :
    Calls Try.prog 4 #[.int .u32 s, .int .u32 i, .bool true, .int .u32 use, .bool false, .bool true, .int .u32 calls, .int .u32 singles, .bool false, .int .u32 ou, .bool false, .int .u32 oc] w fun e w' => e = .returned (.bool true) ∧ Below w.heap.size w w' := by
  have hmm := @run_makeMap Try.prog
  have hnil := fun (W : World) (r : Option Nat) => run_eql_map_nil W 45 41 47 r Try.underlying45
  have HNE := Lib.hid (ref_ne (i := i) (xor_ne s hs hs1))
  go_enter Try.func4, Try.ntmps4
  go_wp2_with (refine wpList_insertN rfl (.tmp 53) (.tmp 54) (.tmp 56) 44 rfl 41 43 keyR Try.underlying44 (w.heap.size + 1 + 1) 0 1 (fun _ => none) rfl (MapIs.newAt IsPair (by go_size)) (refP (bits .xor .u32 s 1) i) (.agg #[.int .u32 ou]) rfl rfl (refP_pair _ i) rfl ?_)
  intro w2 h1 h2
  obtain ⟨s', hs'⟩ : ∃ s', bits .xor .u32 s 1 = s' := ⟨_, rfl⟩
  rw [hs'] at h1 h2 HNE ⊢
  have T2 : RowAt w2 w.heap.size #[.int .u32 s, .int .u32 i] 41 := h2.row (((RowAt.new w _ _).alloc _).alloc _) (by omega)
  have O2 : RowAt w2 (w.heap.size + 1) #[.int .u32 s', .int .u32 i] 41 := h2.row (RowAt.alloc (RowAt.newAt (by simp)) _) (by omega)
  have B2 : Below w.heap.size w w2 := Below.trans (by go_grown) (h2.below (by omega))
  have Z2 : w.heap.size + 1 + 1 < w2.heap.size := by have := h2.size; simp at this; omega
  have M2 := h1
  obtain ⟨m, hm⟩ : ∃ m, w.heap.size + 1 + 1 = m := ⟨_, rfl⟩
  obtain ⟨o, ho⟩ : ∃ o, w.heap.size + 1 = o := ⟨_, rfl⟩
  rw [hm] at M2 Z2 ⊢
  rw [ho] at O2 ⊢
  have mne : w.heap.size ≠ m ∧ o ≠ m := by omega
  have mB : w.heap.size ≤ m := by omega
  clear h1 h2 hs' hm ho hs hs1
  have HT := Lib.hid T2
  have HO := Lib.hid O2
  have HM := Lib.hid M2
  have HB := Lib.hid B2
  have t0 := T2.cellv (j := 0) (v := .int .u32 s) rfl
  have t1 := T2.cellv (j := 1) (v := .int .u32 i) rfl
  have o0 := O2.cellv (j := 0) (v := .int .u32 s') rfl
  have o1 := O2.cellv (j := 1) (v := .int .u32 i) rfl
  have zo := O2.lt
  have zt := T2.lt
  clear T2 O2 M2 B2
  go_wp2_with (at_mapUpdate; refine wpList_putN rfl (.tmp 59) (.tmp 60) (.tmp 62) 44 rfl 41 43 keyR Try.underlying44 m 1 2 (putF (fun _ => none) (refP s' i) (.agg #[.int .u32 ou])) rfl HM.out (refP s i) (.agg #[.int .u32 use]) rfl rfl (refP_pair s i) (by rw [putF_other _ _ HNE.out]; rfl) ?_)
  intro w3 h1 h2
  have T2 := h2.row HT.out mne.1
  have O2 := h2.row HO.out mne.2
  have Z3 : m < w3.heap.size := by have := h2.size; omega
  have HB3 := Lib.hid (HB.out.trans (h2.below mB))
  have HM3 := Lib.hid h1
  clear h1 h2 HM HB HT HO t0 t1 o0 o1 zo zt Z2
  have HT := Lib.hid T2
  have HO := Lib.hid O2
  have t0 := T2.cellv (j := 0) (v := .int .u32 s) rfl
  have t1 := T2.cellv (j := 1) (v := .int .u32 i) rfl
  have o0 := O2.cellv (j := 0) (v := .int .u32 s') rfl
  have o1 := O2.cellv (j := 1) (v := .int .u32 i) rfl
  have zo := O2.lt
  have zt := T2.lt
  clear T2 O2
  go_upto_region 10 with (fail)
  obtain ⟨m2, hm2⟩ : ∃ m2, w3.heap.size = m2 := ⟨_, rfl⟩
  have M5 : MapIs (w3.alloc (.map #[] 0)) m2 IsPair (fun _ => none) 0 := MapIs.newAt IsPair hm2.symm
  have T2 : RowAt (w3.alloc (.map #[] 0)) w.heap.size #[.int .u32 s, .int .u32 i] 41 := HT.out.alloc _
  have O2 : RowAt (w3.alloc (.map #[] 0)) o #[.int .u32 s', .int .u32 i] 41 := HO.out.alloc _
  have B5 : Below w.heap.size w (w3.alloc (.map #[] 0)) := HB3.out.alloc HB3.out.size _
  have M6 := HM3.out.alloc (.map #[] 0)
  have mm2 : m2 ≠ m := by omega
  have mne2 : w.heap.size ≠ m2 ∧ o ≠ m2 := by omega
  have m2B : w.heap.size ≤ m2 := by omega
  rw [hm2]
  generalize hW : w3.alloc (.map #[] 0) = w5 at M5 T2 O2 B5 M6 ⊢
  clear hW hm2 HM3 HB3 HT HO t0 t1 o0 o1 zo zt Z3
  have HT := Lib.hid T2
  have HO := Lib.hid O2
  have HM3 := Lib.hid M6
  have HG := Lib.hid M5
  have HB3 := Lib.hid B5
  have t0 := T2.cellv (j := 0) (v := .int .u32 s) rfl
  have t1 := T2.cellv (j := 1) (v := .int .u32 i) rfl
  have o0 := O2.cellv (j := 0) (v := .int .u32 s') rfl
  have o1 := O2.cellv (j := 1) (v := .int .u32 i) rfl
  have zo := O2.lt
  have zt := T2.lt
  have Z3 := M6.lt
  clear T2 O2 M5 M6 B5
  go_wp2_with (at_mapUpdate; refine wpList_putN rfl (.tmp 72) (.tmp 73) (.tmp 76) 45 rfl 41 47 keyR Try.underlying45 m2 0 1 (fun _ => none) rfl HG.out (refP s i) (.agg #[.int .u32 calls, .int .u32 singles]) rfl rfl (refP_pair _ i) (rfl) ?_)
  intro w6 h1 h2
  have T2 := h2.row HT.out mne2.1
  have O2 := h2.row HO.out mne2.2
  have B5 := HB3.out.trans (h2.below m2B)
  have M6 := h2.map HM3.out (fun e => mm2 e.symm)
  have M5 := h1
  clear h1 h2 HM3 HG HB3 HT HO t0 t1 o0 o1 zo zt Z3
  have HT := Lib.hid T2
  have HO := Lib.hid O2
  have HM3 := Lib.hid M6
  have HG := Lib.hid M5
  have HB3 := Lib.hid B5
  have t0 := T2.cellv (j := 0) (v := .int .u32 s) rfl
  have t1 := T2.cellv (j := 1) (v := .int .u32 i) rfl
  have o0 := O2.cellv (j := 0) (v := .int .u32 s') rfl
  have o1 := O2.cellv (j := 1) (v := .int .u32 i) rfl
  have zo := O2.lt
  have zt := T2.lt
  have Z3 := M6.lt
  clear T2 O2 M5 M6 B5
  go_upto_region 14 with (fail)
  go_upto_region 15 with (fail)
  have HQ : Hid (RowAt (w6.alloc (.cells (partC m (some m2)) 56)) w6.heap.size (partC m (some m2)) 56) := RowAt.new _ _ _
  go_wp2_with fail
  refine (new11 w6.heap.size _).mono ?_
  rintro e w8 ⟨rfl, hp, b8⟩
  have pc := parser_cell hp
  have HQ8 := Lib.hid (HQ.out.below b8 (by simp))
  have HT8 := Lib.hid ((HT.out.alloc (.cells (partC m (some m2)) 56)).below b8 (by have := HT.out.lt; simp; omega))
  have HO8 := Lib.hid ((HO.out.alloc (.cells (partC m (some m2)) 56)).below b8 (by have := HO.out.lt; simp; omega))
  have HM8 := Lib.hid ((HM3.out.alloc (.cells (partC m (some m2)) 56)).below b8 (by have := HM3.out.lt; simp; omega))
  have HG8 := Lib.hid ((HG.out.alloc (.cells (partC m (some m2)) 56)).below b8 (by have := HG.out.lt; simp; omega))
  have HB8 := Lib.hid ((HB3.out.alloc HB3.out.size (.cells (partC m (some m2)) 56)).trans (b8.mono (by have := HB3.out.size; simp; omega)))
  have hQB : w.heap.size ≤ w6.heap.size := HB3.out.size
  have hpm : (w6.alloc (.cells (partC m (some m2)) 56)).heap.size ≠ m := by have := HM3.out.lt; simp; omega
  have hpm2 : (w6.alloc (.cells (partC m (some m2)) 56)).heap.size ≠ m2 := by have := HG.out.lt; simp; omega
  simp only [World.size_alloc] at pc hpm hpm2 ⊢
  obtain ⟨q, hq⟩ : ∃ q, w6.heap.size = q := ⟨_, rfl⟩
  rw [hq] at pc HQ8 hQB hpm hpm2 ⊢
  obtain ⟨p, hpp⟩ : ∃ p, q + 1 = p := ⟨_, rfl⟩
  rw [hpp] at pc hpm hpm2 ⊢
  have HP := Lib.hid pc
  have t80 := HT8.out.cellv (j := 0) (v := .int .u32 s) rfl
  have t81 := HT8.out.cellv (j := 1) (v := .int .u32 i) rfl
  clear hp pc b8 hq hpp HQ HT HO HM3 HG HB3 t0 t1 o0 o1 zo zt Z3
  go_wp2_with fail
  have hz : (((use - 1) % 4294967296) : Int) ≠ 0 := by omega
  refine (conv12_some p q m m2 2 2 1 1 s i use ((use - 1) % 4294967296) calls singles false (putF (putF (fun _ => none) (refP s' i) (.agg #[.int .u32 ou])) (refP s i) (.agg #[.int .u32 use])) (putF (putF (putF (fun _ => none) (refP s' i) (.agg #[.int .u32 ou])) (refP s i) (.agg #[.int .u32 use])) (refP s i) (.agg #[.int .u32 ((use - 1) % 4294967296)])) (putF (fun _ => none) (refP s i) (.agg #[.int .u32 calls, .int .u32 singles])) _ _ HP.out HQ8.out HM8.out HG8.out hpm hpm2 mm2 (by rw [putF_same]; rfl) (by rw [putF_same]; rfl) (rfl) (if_neg hz) (by rw [if_neg hz, putF_same]; rfl) rfl (by rw [putF_same]; rfl)).mono ?_
  rintro e w9 ⟨rfl, mz, hmz, q1, q2, q3, q4⟩
  subst hmz
  have nt : ¬ (w.heap.size = q ∨ w.heap.size = m ∨ w.heap.size = mz) := by
    rintro (e | e | e)
    · exact HT8.out.diff HQ8.out (by decide) e
    · exact mne.1 e
    · exact mne2.1 e
  have no : ¬ (o = q ∨ o = m ∨ o = mz) := by
    rintro (e | e | e)
    · exact HO8.out.diff HQ8.out (by decide) e
    · exact mne.2 e
    · exact mne2.2 e
  have KS : Hid (S5 w9 q m mz w.heap.size o s i s' (putF (putF (putF (fun _ => none) (refP s' i) (.agg #[.int .u32 ou])) (refP s i) (.agg #[.int .u32 use])) (refP s i) (.agg #[.int .u32 ((use - 1) % 4294967296)])) 2 (putF (putF (fun _ => none) (refP s i) (.agg #[.int .u32 calls, .int .u32 singles])) (refP s i) (.agg #[.int .u32 ((calls + 1) % 4294967296), .int .u32 singles])) 1) := ⟨q1, q2, q3, HT8.out.kept (q4.block _ HT8.out.lt nt), HO8.out.kept (q4.block _ HO8.out.lt no)⟩
  have KB : Hid (Below w.heap.size w w9) := HB8.out.trans (q4.below (by rintro j (rfl | rfl | rfl) <;> assumption) HB8.out.size)
  clear q1 q2 q3 q4 nt no HQ8 HT8 HO8 HM8 HG8 hpm2 HB8 HP t80 t81 hpm
  obtain ⟨b, hb⟩ : ∃ b, w.heap.size = b := ⟨_, rfl⟩
  have hcap : Hid (w.heap.size = b) := hb
  rw [hb] at KS ⊢
  clear hb
  have hzb : ((((use - 1) % 4294967296) : Int) == 0) = false := by simpa using hz
  have hzc : ((((use - 1) % 4294967296) : Int) != 0) = true := by simpa using hz
  go_upto_region 21 with (fail)
  go_cut [34, 35] (fun vx vy wx => vx = .pointer (some ⟨w9.heap.size, 0, none⟩) ∧ vy = .bool true ∧ RowAt wx w9.heap.size #[.int .u32 ((use - 1) % 4294967296)] 43 ∧ S5 wx q m mz b o s i s' (putF (putF (putF (fun _ => none) (refP s' i) (.agg #[.int .u32 ou])) (refP s i) (.agg #[.int .u32 use])) (refP s i) (.agg #[.int .u32 ((use - 1) % 4294967296)])) 2 (putF (putF (fun _ => none) (refP s i) (.agg #[.int .u32 calls, .int .u32 singles])) (refP s i) (.agg #[.int .u32 ((calls + 1) % 4294967296), .int .u32 singles])) 1 ∧ Below w.heap.size w wx)
  case first =>
    have c4 := KS.out.qr.cellv (j := 4) (v := .map (some m)) rfl
    have c5 := KS.out.qr.cellv (j := 5) (v := .map (some mz)) rfl
    have t0 := KS.out.tr.cellv (j := 0) (v := .int .u32 s) rfl
    have t1 := KS.out.tr.cellv (j := 1) (v := .int .u32 i) rfl
    have o0 := KS.out.orr.cellv (j := 0) (v := .int .u32 s') rfl
    have o1 := KS.out.orr.cellv (j := 1) (v := .int .u32 i) rfl
    have zq := KS.out.qr.lt
    have zt := KS.out.tr.lt
    have zo := KS.out.orr.lt
    have l1 : (Instr.lookup 44 (.map (some m)) (.agg #[.int .u32 s, .int .u32 i]) true).run Try.prog w9.drew = .ok (.tuple #[.agg #[.int .u32 ((use - 1) % 4294967296)], .bool true]) w9.drew := by
      have := (KS.out.mm.kept (w' := w9.drew) rfl).look keyR Try.underlying44 (zero43 _) (refP_pair s i) true
      rw [show (putF (putF (putF (fun _ => none) (refP s' i) (.agg #[.int .u32 ou])) (refP s i) (.agg #[.int .u32 use])) (refP s i) (.agg #[.int .u32 ((use - 1) % 4294967296)])) (refP s i) = some (.agg #[.int .u32 ((use - 1) % 4294967296)]) from putF_same _ _ _] at this
      exact this
    have l2 : (Instr.lookup 44 (.map (some m)) (.agg #[.int .u32 s, .int .u32 i]) true).run Try.prog (w9.alloc (.cells #[.int .u32 0] 43)).drew = .ok (.tuple #[.agg #[.int .u32 ((use - 1) % 4294967296)], .bool true]) (w9.alloc (.cells #[.int .u32 0] 43)).drew := by
      have := ((KS.out.mm.alloc (.cells #[.int .u32 0] 43)).kept (w' := (w9.alloc (.cells #[.int .u32 0] 43)).drew) rfl).look keyR Try.underlying44 (zero43 _) (refP_pair s i) true
      rw [show (putF (putF (putF (fun _ => none) (refP s' i) (.agg #[.int .u32 ou])) (refP s i) (.agg #[.int .u32 use])) (refP s i) (.agg #[.int .u32 ((use - 1) % 4294967296)])) (refP s i) = some (.agg #[.int .u32 ((use - 1) % 4294967296)]) from putF_same _ _ _] at this
      exact this
    go_region
    all_goals
      go_wp2_with fail
      go_meet
      exact ⟨rfl, rfl, RowAt.new _ _ _, KS.out.later (fun j hj => Below.heap_alloc _ _ _ hj), KB.out.trans (Below.mono (B := w9.heap.size) (by go_grown) KB.out.size)⟩
  case rest =>
    obtain ⟨rfl, rfl, hrx, hS, hB⟩ := hcut
    have g0 := hrx.cellv (j := 0) (v := .int .u32 ((use - 1) % 4294967296)) rfl
    have g1 := hrx.lt
    have g2 := hrx.lt
    have KS2 := Lib.hid hS
    have KB2 : Hid (Below w.heap.size w wc) := hB
    obtain ⟨w10, hwc⟩ : ∃ x, x = wc := ⟨_, rfl⟩
    rw [← hwc] at g0 g1 g2 KS2 KB2 ⊢
    clear hrx hS hB KS KB hwc
    have KS := KS2
    have KB := KB2
    clear KS2 KB2
    have c4 := KS.out.qr.cellv (j := 4) (v := .map (some m)) rfl
    have c5 := KS.out.qr.cellv (j := 5) (v := .map (some mz)) rfl
    have t0 := KS.out.tr.cellv (j := 0) (v := .int .u32 s) rfl
    have t1 := KS.out.tr.cellv (j := 1) (v := .int .u32 i) rfl
    have o0 := KS.out.orr.cellv (j := 0) (v := .int .u32 s') rfl
    have o1 := KS.out.orr.cellv (j := 1) (v := .int .u32 i) rfl
    have zq := KS.out.qr.lt
    have zt := KS.out.tr.lt
    have zo := KS.out.orr.lt
    have ln4 := fun ty => KS.out.mm.len (ty := ty) Try.underlying44
    go_upto_region 27 with (fail)
    clear g0 g1 g2 c4 c5 t0 t1 o0 o1 zq zt zo ln4
    go_upto_region 27 with (fail)
    go_cut [36, 37] (fun vx vy wx => vx = .pointer (some ⟨w10.heap.size, 0, none⟩) ∧ vy = .bool true ∧ RowAt wx w10.heap.size #[.int .u32 ou] 43 ∧ S5 wx q m mz b o s i s' (putF (putF (putF (fun _ => none) (refP s' i) (.agg #[.int .u32 ou])) (refP s i) (.agg #[.int .u32 use])) (refP s i) (.agg #[.int .u32 ((use - 1) % 4294967296)])) 2 (putF (putF (fun _ => none) (refP s i) (.agg #[.int .u32 calls, .int .u32 singles])) (refP s i) (.agg #[.int .u32 ((calls + 1) % 4294967296), .int .u32 singles])) 1 ∧ Below w.heap.size w wx)
    case first =>
      have c4 := KS.out.qr.cellv (j := 4) (v := .map (some m)) rfl
      have c5 := KS.out.qr.cellv (j := 5) (v := .map (some mz)) rfl
      have t0 := KS.out.tr.cellv (j := 0) (v := .int .u32 s) rfl
      have t1 := KS.out.tr.cellv (j := 1) (v := .int .u32 i) rfl
      have o0 := KS.out.orr.cellv (j := 0) (v := .int .u32 s') rfl
      have o1 := KS.out.orr.cellv (j := 1) (v := .int .u32 i) rfl
      have zq := KS.out.qr.lt
      have zt := KS.out.tr.lt
      have zo := KS.out.orr.lt
      have l1 : (Instr.lookup 44 (.map (some m)) (.agg #[.int .u32 s', .int .u32 i]) true).run Try.prog w10.drew = .ok (.tuple #[.agg #[.int .u32 ou], .bool true]) w10.drew := by
        have := (KS.out.mm.kept (w' := w10.drew) rfl).look keyR Try.underlying44 (zero43 _) (refP_pair s' i) true
        rw [show (putF (putF (putF (fun _ => none) (refP s' i) (.agg #[.int .u32 ou])) (refP s i) (.agg #[.int .u32 use])) (refP s i) (.agg #[.int .u32 ((use - 1) % 4294967296)])) (refP s' i) = some (.agg #[.int .u32 ou]) from by rw [putF_other _ _ (fun e => HNE.out e.symm), putF_other _ _ (fun e => HNE.out e.symm), putF_same]] at this
        exact this
      have l2 : (Instr.lookup 44 (.map (some m)) (.agg #[.int .u32 s', .int .u32 i]) true).run Try.prog (w10.alloc (.cells #[.int .u32 0] 43)).drew = .ok (.tuple #[.agg #[.int .u32 ou], .bool true]) (w10.alloc (.cells #[.int .u32 0] 43)).drew := by
        have := ((KS.out.mm.alloc (.cells #[.int .u32 0] 43)).kept (w' := (w10.alloc (.cells #[.int .u32 0] 43)).drew) rfl).look keyR Try.underlying44 (zero43 _) (refP_pair s' i) true
        rw [show (putF (putF (putF (fun _ => none) (refP s' i) (.agg #[.int .u32 ou])) (refP s i) (.agg #[.int .u32 use])) (refP s i) (.agg #[.int .u32 ((use - 1) % 4294967296)])) (refP s' i) = some (.agg #[.int .u32 ou]) from by rw [putF_other _ _ (fun e => HNE.out e.symm), putF_other _ _ (fun e => HNE.out e.symm), putF_same]] at this
        exact this
      go_region
      all_goals
        go_wp2_with fail
        go_meet
        exact ⟨rfl, rfl, RowAt.new _ _ _, KS.out.later (fun j hj => Below.heap_alloc _ _ _ hj), KB.out.trans (Below.mono (B := w10.heap.size) (by go_grown) KB.out.size)⟩
    case rest =>
      obtain ⟨rfl, rfl, hrx, hS, hB⟩ := hcut
      have g0 := hrx.cellv (j := 0) (v := .int .u32 ou) rfl
      have g1 := hrx.lt
      have g2 := hrx.lt
      have KS2 := Lib.hid hS
      have KB2 : Hid (Below w.heap.size w wc) := hB
      obtain ⟨w11, hwc⟩ : ∃ x, x = wc := ⟨_, rfl⟩
      rw [← hwc] at g0 g1 g2 KS2 KB2 ⊢
      clear hrx hS hB KS KB hwc
      have KS := KS2
      have KB := KB2
      clear KS2 KB2
      have c4 := KS.out.qr.cellv (j := 4) (v := .map (some m)) rfl
      have c5 := KS.out.qr.cellv (j := 5) (v := .map (some mz)) rfl
      have t0 := KS.out.tr.cellv (j := 0) (v := .int .u32 s) rfl
      have t1 := KS.out.tr.cellv (j := 1) (v := .int .u32 i) rfl
      have o0 := KS.out.orr.cellv (j := 0) (v := .int .u32 s') rfl
      have o1 := KS.out.orr.cellv (j := 1) (v := .int .u32 i) rfl
      have zq := KS.out.qr.lt
      have zt := KS.out.tr.lt
      have zo := KS.out.orr.lt
      have ln4 := fun ty => KS.out.mm.len (ty := ty) Try.underlying44
      go_upto_region 45 with (fail)
      clear g0 g1 g2 c4 c5 t0 t1 o0 o1 zq zt zo ln4
      go_upto_region 45 with (fail)
      go_cut [42, 43] (fun vx vy wx => vx = .pointer (some ⟨w11.heap.size, 0, none⟩) ∧ vy = .bool false ∧ RowAt wx w11.heap.size #[.int .u32 0, .int .u32 0] 47 ∧ S5 wx q m mz b o s i s' (putF (putF (putF (fun _ => none) (refP s' i) (.agg #[.int .u32 ou])) (refP s i) (.agg #[.int .u32 use])) (refP s i) (.agg #[.int .u32 ((use - 1) % 4294967296)])) 2 (putF (putF (fun _ => none) (refP s i) (.agg #[.int .u32 calls, .int .u32 singles])) (refP s i) (.agg #[.int .u32 ((calls + 1) % 4294967296), .int .u32 singles])) 1 ∧ Below w.heap.size w wx)
      case first =>
        have c4 := KS.out.qr.cellv (j := 4) (v := .map (some m)) rfl
        have c5 := KS.out.qr.cellv (j := 5) (v := .map (some mz)) rfl
        have t0 := KS.out.tr.cellv (j := 0) (v := .int .u32 s) rfl
        have t1 := KS.out.tr.cellv (j := 1) (v := .int .u32 i) rfl
        have o0 := KS.out.orr.cellv (j := 0) (v := .int .u32 s') rfl
        have o1 := KS.out.orr.cellv (j := 1) (v := .int .u32 i) rfl
        have zq := KS.out.qr.lt
        have zt := KS.out.tr.lt
        have zo := KS.out.orr.lt
        have l1 : (Instr.lookup 45 (.map (some mz)) (.agg #[.int .u32 s', .int .u32 i]) true).run Try.prog w11.drew = .ok (.tuple #[.agg #[.int .u32 0, .int .u32 0], .bool false]) w11.drew := by
          have := (KS.out.gm.kept (w' := w11.drew) rfl).look keyR Try.underlying45 (zero47 _) (refP_pair s' i) true
          rw [show (putF (putF (fun _ => none) (refP s i) (.agg #[.int .u32 calls, .int .u32 singles])) (refP s i) (.agg #[.int .u32 ((calls + 1) % 4294967296), .int .u32 singles])) (refP s' i) = none from by rw [putF_other _ _ (fun e => HNE.out e.symm), putF_other _ _ (fun e => HNE.out e.symm)]] at this
          exact this
        have l2 : (Instr.lookup 45 (.map (some mz)) (.agg #[.int .u32 s', .int .u32 i]) true).run Try.prog (w11.alloc (.cells #[.int .u32 0, .int .u32 0] 47)).drew = .ok (.tuple #[.agg #[.int .u32 0, .int .u32 0], .bool false]) (w11.alloc (.cells #[.int .u32 0, .int .u32 0] 47)).drew := by
          have := ((KS.out.gm.alloc (.cells #[.int .u32 0, .int .u32 0] 47)).kept (w' := (w11.alloc (.cells #[.int .u32 0, .int .u32 0] 47)).drew) rfl).look keyR Try.underlying45 (zero47 _) (refP_pair s' i) true
          rw [show (putF (putF (fun _ => none) (refP s i) (.agg #[.int .u32 calls, .int .u32 singles])) (refP s i) (.agg #[.int .u32 ((calls + 1) % 4294967296), .int .u32 singles])) (refP s' i) = none from by rw [putF_other _ _ (fun e => HNE.out e.symm), putF_other _ _ (fun e => HNE.out e.symm)]] at this
          exact this
        go_region
        all_goals
          go_wp2_with fail
          go_meet
          exact ⟨rfl, rfl, RowAt.new _ _ _, KS.out.later (fun j hj => Below.heap_alloc _ _ _ hj), KB.out.trans (Below.mono (B := w11.heap.size) (by go_grown) KB.out.size)⟩
      case rest =>
        obtain ⟨rfl, rfl, hrx, hS, hB⟩ := hcut
        have g0 := hrx.cellv (j := 0) (v := .int .u32 0) rfl
        have g1 := hrx.cellv (j := 1) (v := .int .u32 0) rfl
        have g2 := hrx.lt
        have KS2 := Lib.hid hS
        have KB2 : Hid (Below w.heap.size w wc) := hB
        obtain ⟨w12, hwc⟩ : ∃ x, x = wc := ⟨_, rfl⟩
        rw [← hwc] at g0 g1 g2 KS2 KB2 ⊢
        clear hrx hS hB KS KB hwc
        have KS := KS2
        have KB := KB2
        clear KS2 KB2
        have c4 := KS.out.qr.cellv (j := 4) (v := .map (some m)) rfl
        have c5 := KS.out.qr.cellv (j := 5) (v := .map (some mz)) rfl
        have t0 := KS.out.tr.cellv (j := 0) (v := .int .u32 s) rfl
        have t1 := KS.out.tr.cellv (j := 1) (v := .int .u32 i) rfl
        have o0 := KS.out.orr.cellv (j := 0) (v := .int .u32 s') rfl
        have o1 := KS.out.orr.cellv (j := 1) (v := .int .u32 i) rfl
        have zq := KS.out.qr.lt
        have zt := KS.out.tr.lt
        have zo := KS.out.orr.lt
        have ln4 := fun ty => KS.out.mm.len (ty := ty) Try.underlying44
        go_upto_region 53 with (fail)
        clear g0 g1 g2 c4 c5 t0 t1 o0 o1 zq zt zo ln4
        have c4 := KS.out.qr.cellv (j := 4) (v := .map (some m)) rfl
        have c5 := KS.out.qr.cellv (j := 5) (v := .map (some mz)) rfl
        have t0 := KS.out.tr.cellv (j := 0) (v := .int .u32 s) rfl
        have t1 := KS.out.tr.cellv (j := 1) (v := .int .u32 i) rfl
        have o0 := KS.out.orr.cellv (j := 0) (v := .int .u32 s') rfl
        have o1 := KS.out.orr.cellv (j := 1) (v := .int .u32 i) rfl
        have zq := KS.out.qr.lt
        have zt := KS.out.tr.lt
        have zo := KS.out.orr.lt
        have l1 : (Instr.lookup 45 (.map (some mz)) (.agg #[.int .u32 s, .int .u32 i]) true).run Try.prog w12.drew = .ok (.tuple #[.agg #[.int .u32 ((calls + 1) % 4294967296), .int .u32 singles], .bool true]) w12.drew := by
          have := (KS.out.gm.kept (w' := w12.drew) rfl).look keyR Try.underlying45 (zero47 _) (refP_pair s i) true
          rw [show (putF (putF (fun _ => none) (refP s i) (.agg #[.int .u32 calls, .int .u32 singles])) (refP s i) (.agg #[.int .u32 ((calls + 1) % 4294967296), .int .u32 singles])) (refP s i) = some (.agg #[.int .u32 ((calls + 1) % 4294967296), .int .u32 singles]) from putF_same _ _ _] at this
          exact this
        have l2 : (Instr.lookup 45 (.map (some mz)) (.agg #[.int .u32 s, .int .u32 i]) true).run Try.prog (w12.alloc (.cells #[.int .u32 0, .int .u32 0] 47)).drew = .ok (.tuple #[.agg #[.int .u32 ((calls + 1) % 4294967296), .int .u32 singles], .bool true]) (w12.alloc (.cells #[.int .u32 0, .int .u32 0] 47)).drew := by
          have := ((KS.out.gm.alloc (.cells #[.int .u32 0, .int .u32 0] 47)).kept (w' := (w12.alloc (.cells #[.int .u32 0, .int .u32 0] 47)).drew) rfl).look keyR Try.underlying45 (zero47 _) (refP_pair s i) true
          rw [show (putF (putF (fun _ => none) (refP s i) (.agg #[.int .u32 calls, .int .u32 singles])) (refP s i) (.agg #[.int .u32 ((calls + 1) % 4294967296), .int .u32 singles])) (refP s i) = some (.agg #[.int .u32 ((calls + 1) % 4294967296), .int .u32 singles]) from putF_same _ _ _] at this
          exact this
        have ln4 := fun ty => ((KS.out.gm.alloc (.cells #[.int .u32 ((calls + 1) % 4294967296), .int .u32 singles] 47)).kept (w' := (w12.alloc (.cells #[.int .u32 ((calls + 1) % 4294967296), .int .u32 singles] 47)).drew) rfl).len (ty := ty) Try.underlying45
        go_region
        all_goals
          go_wp2_with fail
          go_ret
          exact ⟨rfl, KB.out.trans (Below.mono (B := w12.heap.size) (by go_grown) KB.out.size)⟩

set_option maxHeartbeats 8000000 in
theorem main_vrf (s i : Int) (use calls singles ou oc : Int) (w : World) (hs : 0 ≤ s) (hs1 : s ≤ 4294967295) (hu : 0 ≤ use) (hu1 : use ≤ 4294967295) (hc : 0 ≤ calls) (hc1 : calls ≤ 4294967295) (hd : 0 ≤ singles) (hd1 : singles ≤ 4294967295) :
    Calls Try.prog 4 #[.int .u32 s, .int .u32 i, .bool false, .int .u32 use, .bool false, .bool true, .int .u32 calls, .int .u32 singles, .bool false, .int .u32 ou, .bool false, .int .u32 oc] w fun e w' => e = .returned (.bool true) ∧ Below w.heap.size w w' := by
  have hmm := @run_makeMap Try.prog
  have hnil := fun (W : World) (r : Option Nat) => run_eql_map_nil W 45 41 47 r Try.underlying45
  have HNE := Lib.hid (ref_ne (i := i) (xor_ne s hs hs1))
  go_enter Try.func4, Try.ntmps4
  go_wp2_with (refine wpList_insertN rfl (.tmp 53) (.tmp 54) (.tmp 56) 44 rfl 41 43 keyR Try.underlying44 (w.heap.size + 1 + 1) 0 1 (fun _ => none) rfl (MapIs.newAt IsPair (by go_size)) (refP (bits .xor .u32 s 1) i) (.agg #[.int .u32 ou]) rfl rfl (refP_pair _ i) rfl ?_)
  intro w2 h1 h2
  obtain ⟨s', hs'⟩ : ∃ s', bits .xor .u32 s 1 = s' := ⟨_, rfl⟩
  rw [hs'] at h1 h2 HNE ⊢
  have T2 : RowAt w2 w.heap.size #[.int .u32 s, .int .u32 i] 41 := h2.row (((RowAt.new w _ _).alloc _).alloc _) (by omega)
  have O2 : RowAt w2 (w.heap.size + 1) #[.int .u32 s', .int .u32 i] 41 := h2.row (RowAt.alloc (RowAt.newAt (by simp)) _) (by omega)
  have B2 : Below w.heap.size w w2 := Below.trans (by go_grown) (h2.below (by omega))
  have Z2 : w.heap.size + 1 + 1 < w2.heap.size := by have := h2.size; simp at this; omega
  have M2 := h1
  obtain ⟨m, hm⟩ : ∃ m, w.heap.size + 1 + 1 = m := ⟨_, rfl⟩
  obtain ⟨o, ho⟩ : ∃ o, w.heap.size + 1 = o := ⟨_, rfl⟩
  rw [hm] at M2 Z2 ⊢
  rw [ho] at O2 ⊢
  have mne : w.heap.size ≠ m ∧ o ≠ m := by omega
  have mB : w.heap.size ≤ m := by omega
  clear h1 h2 hs' hm ho hs hs1
  have HT := Lib.hid T2
  have HO := Lib.hid O2
  have HM := Lib.hid M2
  have HB := Lib.hid B2
  have t0 := T2.cellv (j := 0) (v := .int .u32 s) rfl
  have t1 := T2.cellv (j := 1) (v := .int .u32 i) rfl
  have o0 := O2.cellv (j := 0) (v := .int .u32 s') rfl
  have o1 := O2.cellv (j := 1) (v := .int .u32 i) rfl
  have zo := O2.lt
  have zt := T2.lt
  clear T2 O2 M2 B2
  have HM3 := HM
  have HB3 := HB
  have Z3 := Z2
  obtain ⟨w3, rfl⟩ : ∃ w3, w3 = w2 := ⟨_, rfl⟩
  clear HM HB Z2
  go_upto_region 10 with (fail)
  obtain ⟨m2, hm2⟩ : ∃ m2, w3.heap.size = m2 := ⟨_, rfl⟩
  have M5 : MapIs (w3.alloc (.map #[] 0)) m2 IsPair (fun _ => none) 0 := MapIs.newAt IsPair hm2.symm
  have T2 : RowAt (w3.alloc (.map #[] 0)) w.heap.size #[.int .u32 s, .int .u32 i] 41 := HT.out.alloc _
  have O2 : RowAt (w3.alloc (.map #[] 0)) o #[.int .u32 s', .int .u32 i] 41 := HO.out.alloc _
  have B5 : Below w.heap.size w (w3.alloc (.map #[] 0)) := HB3.out.alloc HB3.out.size _
  have M6 := HM3.out.alloc (.map #[] 0)
  have mm2 : m2 ≠ m := by omega
  have mne2 : w.heap.size ≠ m2 ∧ o ≠ m2 := by omega
  have m2B : w.heap.size ≤ m2 := by omega
  rw [hm2]
  generalize hW : w3.alloc (.map #[] 0) = w5 at M5 T2 O2 B5 M6 ⊢
  clear hW hm2 HM3 HB3 HT HO t0 t1 o0 o1 zo zt Z3
  have HT := Lib.hid T2
  have HO := Lib.hid O2
  have HM3 := Lib.hid M6
  have HG := Lib.hid M5
  have HB3 := Lib.hid B5
  have t0 := T2.cellv (j := 0) (v := .int .u32 s) rfl
  have t1 := T2.cellv (j := 1) (v := .int .u32 i) rfl
  have o0 := O2.cellv (j := 0) (v := .int .u32 s') rfl
  have o1 := O2.cellv (j := 1) (v := .int .u32 i) rfl
  have zo := O2.lt
  have zt := T2.lt
  have Z3 := M6.lt
  clear T2 O2 M5 M6 B5
  go_wp2_with (at_mapUpdate; refine wpList_putN rfl (.tmp 72) (.tmp 73) (.tmp 76) 45 rfl 41 47 keyR Try.underlying45 m2 0 1 (fun _ => none) rfl HG.out (refP s i) (.agg #[.int .u32 calls, .int .u32 singles]) rfl rfl (refP_pair _ i) (rfl) ?_)
  intro w6 h1 h2
  have T2 := h2.row HT.out mne2.1
  have O2 := h2.row HO.out mne2.2
  have B5 := HB3.out.trans (h2.below m2B)
  have M6 := h2.map HM3.out (fun e => mm2 e.symm)
  have M5 := h1
  clear h1 h2 HM3 HG HB3 HT HO t0 t1 o0 o1 zo zt Z3
  have HT := Lib.hid T2
  have HO := Lib.hid O2
  have HM3 := Lib.hid M6
  have HG := Lib.hid M5
  have HB3 := Lib.hid B5
  have t0 := T2.cellv (j := 0) (v := .int .u32 s) rfl
  have t1 := T2.cellv (j := 1) (v := .int .u32 i) rfl
  have o0 := O2.cellv (j := 0) (v := .int .u32 s') rfl
  have o1 := O2.cellv (j := 1) (v := .int .u32 i) rfl
  have zo := O2.lt
  have zt := T2.lt
  have Z3 := M6.lt
  clear T2 O2 M5 M6 B5
  go_upto_region 14 with (fail)
  go_upto_region 15 with (fail)
  have HQ : Hid (RowAt (w6.alloc (.cells (partC m (some m2)) 56)) w6.heap.size (partC m (some m2)) 56) := RowAt.new _ _ _
  go_wp2_with fail
  refine (new11 w6.heap.size _).mono ?_
  rintro e w8 ⟨rfl, hp, b8⟩
  have pc := parser_cell hp
  have HQ8 := Lib.hid (HQ.out.below b8 (by simp))
  have HT8 := Lib.hid ((HT.out.alloc (.cells (partC m (some m2)) 56)).below b8 (by have := HT.out.lt; simp; omega))
  have HO8 := Lib.hid ((HO.out.alloc (.cells (partC m (some m2)) 56)).below b8 (by have := HO.out.lt; simp; omega))
  have HM8 := Lib.hid ((HM3.out.alloc (.cells (partC m (some m2)) 56)).below b8 (by have := HM3.out.lt; simp; omega))
  have HG8 := Lib.hid ((HG.out.alloc (.cells (partC m (some m2)) 56)).below b8 (by have := HG.out.lt; simp; omega))
  have HB8 := Lib.hid ((HB3.out.alloc HB3.out.size (.cells (partC m (some m2)) 56)).trans (b8.mono (by have := HB3.out.size; simp; omega)))
  have hQB : w.heap.size ≤ w6.heap.size := HB3.out.size
  have hpm : (w6.alloc (.cells (partC m (some m2)) 56)).heap.size ≠ m := by have := HM3.out.lt; simp; omega
  have hpm2 : (w6.alloc (.cells (partC m (some m2)) 56)).heap.size ≠ m2 := by have := HG.out.lt; simp; omega
  simp only [World.size_alloc] at pc hpm hpm2 ⊢
  obtain ⟨q, hq⟩ : ∃ q, w6.heap.size = q := ⟨_, rfl⟩
  rw [hq] at pc HQ8 hQB hpm hpm2 ⊢
  obtain ⟨p, hpp⟩ : ∃ p, q + 1 = p := ⟨_, rfl⟩
  rw [hpp] at pc hpm hpm2 ⊢
  have HP := Lib.hid pc
  have t80 := HT8.out.cellv (j := 0) (v := .int .u32 s) rfl
  have t81 := HT8.out.cellv (j := 1) (v := .int .u32 i) rfl
  clear hp pc b8 hq hpp HQ HT HO HM3 HG HB3 t0 t1 o0 o1 zo zt Z3
  go_wp2_with fail
  have hz : (4294967295 : Int) ≠ 0 := by omega
  refine (conv12_some p q m m2 1 2 1 1 s i 0 4294967295 calls singles false (putF (fun _ => none) (refP s' i) (.agg #[.int .u32 ou])) (putF (putF (fun _ => none) (refP s' i) (.agg #[.int .u32 ou])) (refP s i) (.agg #[.int .u32 4294967295])) (putF (fun _ => none) (refP s i) (.agg #[.int .u32 calls, .int .u32 singles])) _ _ HP.out HQ8.out HM8.out HG8.out hpm hpm2 mm2 (by rw [putF_other _ _ HNE.out]; rfl) (by rw [putF_same]; rfl) (by decide) (if_neg hz) (by rw [if_neg hz, putF_other _ _ HNE.out]; rfl) rfl (by rw [putF_same]; rfl)).mono ?_
  rintro e w9 ⟨rfl, mz, hmz, q1, q2, q3, q4⟩
  subst hmz
  have nt : ¬ (w.heap.size = q ∨ w.heap.size = m ∨ w.heap.size = mz) := by
    rintro (e | e | e)
    · exact HT8.out.diff HQ8.out (by decide) e
    · exact mne.1 e
    · exact mne2.1 e
  have no : ¬ (o = q ∨ o = m ∨ o = mz) := by
    rintro (e | e | e)
    · exact HO8.out.diff HQ8.out (by decide) e
    · exact mne.2 e
    · exact mne2.2 e
  have KS : Hid (S5 w9 q m mz w.heap.size o s i s' (putF (putF (fun _ => none) (refP s' i) (.agg #[.int .u32 ou])) (refP s i) (.agg #[.int .u32 4294967295])) 2 (putF (putF (fun _ => none) (refP s i) (.agg #[.int .u32 calls, .int .u32 singles])) (refP s i) (.agg #[.int .u32 ((calls + 1) % 4294967296), .int .u32 singles])) 1) := ⟨q1, q2, q3, HT8.out.kept (q4.block _ HT8.out.lt nt), HO8.out.kept (q4.block _ HO8.out.lt no)⟩
  have KB : Hid (Below w.heap.size w w9) := HB8.out.trans (q4.below (by rintro j (rfl | rfl | rfl) <;> assumption) HB8.out.size)
  clear q1 q2 q3 q4 nt no HQ8 HT8 HO8 HM8 HG8 hpm2 HB8 HP t80 t81 hpm
  obtain ⟨b, hb⟩ : ∃ b, w.heap.size = b := ⟨_, rfl⟩
  have hcap : Hid (w.heap.size = b) := hb
  rw [hb] at KS ⊢
  clear hb
  have hzb : ((4294967295 : Int) == 0) = false := by decide
  have hzc : ((4294967295 : Int) != 0) = true := by decide
  go_upto_region 21 with (fail)
  go_cut [34, 35] (fun vx vy wx => vx = .pointer (some ⟨w9.heap.size, 0, none⟩) ∧ vy = .bool true ∧ RowAt wx w9.heap.size #[.int .u32 4294967295] 43 ∧ S5 wx q m mz b o s i s' (putF (putF (fun _ => none) (refP s' i) (.agg #[.int .u32 ou])) (refP s i) (.agg #[.int .u32 4294967295])) 2 (putF (putF (fun _ => none) (refP s i) (.agg #[.int .u32 calls, .int .u32 singles])) (refP s i) (.agg #[.int .u32 ((calls + 1) % 4294967296), .int .u32 singles])) 1 ∧ Below w.heap.size w wx)
  case first =>
    have c4 := KS.out.qr.cellv (j := 4) (v := .map (some m)) rfl
    have c5 := KS.out.qr.cellv (j := 5) (v := .map (some mz)) rfl
    have t0 := KS.out.tr.cellv (j := 0) (v := .int .u32 s) rfl
    have t1 := KS.out.tr.cellv (j := 1) (v := .int .u32 i) rfl
    have o0 := KS.out.orr.cellv (j := 0) (v := .int .u32 s') rfl
    have o1 := KS.out.orr.cellv (j := 1) (v := .int .u32 i) rfl
    have zq := KS.out.qr.lt
    have zt := KS.out.tr.lt
    have zo := KS.out.orr.lt
    have l1 : (Instr.lookup 44 (.map (some m)) (.agg #[.int .u32 s, .int .u32 i]) true).run Try.prog w9.drew = .ok (.tuple #[.agg #[.int .u32 4294967295], .bool true]) w9.drew := by
      have := (KS.out.mm.kept (w' := w9.drew) rfl).look keyR Try.underlying44 (zero43 _) (refP_pair s i) true
      rw [show (putF (putF (fun _ => none) (refP s' i) (.agg #[.int .u32 ou])) (refP s i) (.agg #[.int .u32 4294967295])) (refP s i) = some (.agg #[.int .u32 4294967295]) from putF_same _ _ _] at this
      exact this
    have l2 : (Instr.lookup 44 (.map (some m)) (.agg #[.int .u32 s, .int .u32 i]) true).run Try.prog (w9.alloc (.cells #[.int .u32 0] 43)).drew = .ok (.tuple #[.agg #[.int .u32 4294967295], .bool true]) (w9.alloc (.cells #[.int .u32 0] 43)).drew := by
      have := ((KS.out.mm.alloc (.cells #[.int .u32 0] 43)).kept (w' := (w9.alloc (.cells #[.int .u32 0] 43)).drew) rfl).look keyR Try.underlying44 (zero43 _) (refP_pair s i) true
      rw [show (putF (putF (fun _ => none) (refP s' i) (.agg #[.int .u32 ou])) (refP s i) (.agg #[.int .u32 4294967295])) (refP s i) = some (.agg #[.int .u32 4294967295]) from putF_same _ _ _] at this
      exact this
    go_region
    all_goals
      go_wp2_with fail
      go_meet
      exact ⟨rfl, rfl, RowAt.new _ _ _, KS.out.later (fun j hj => Below.heap_alloc _ _ _ hj), KB.out.trans (Below.mono (B := w9.heap.size) (by go_grown) KB.out.size)⟩
  case rest =>
    obtain ⟨rfl, rfl, hrx, hS, hB⟩ := hcut
    have g0 := hrx.cellv (j := 0) (v := .int .u32 4294967295) rfl
    have g1 := hrx.lt
    have g2 := hrx.lt
    have KS2 := Lib.hid hS
    have KB2 : Hid (Below w.heap.size w wc) := hB
    obtain ⟨w10, hwc⟩ : ∃ x, x = wc := ⟨_, rfl⟩
    rw [← hwc] at g0 g1 g2 KS2 KB2 ⊢
    clear hrx hS hB KS KB hwc
    have KS := KS2
    have KB := KB2
    clear KS2 KB2
    have c4 := KS.out.qr.cellv (j := 4) (v := .map (some m)) rfl
    have c5 := KS.out.qr.cellv (j := 5) (v := .map (some mz)) rfl
    have t0 := KS.out.tr.cellv (j := 0) (v := .int .u32 s) rfl
    have t1 := KS.out.tr.cellv (j := 1) (v := .int .u32 i) rfl
    have o0 := KS.out.orr.cellv (j := 0) (v := .int .u32 s') rfl
    have o1 := KS.out.orr.cellv (j := 1) (v := .int .u32 i) rfl
    have zq := KS.out.qr.lt
    have zt := KS.out.tr.lt
    have zo := KS.out.orr.lt
    have ln4 := fun ty => KS.out.mm.len (ty := ty) Try.underlying44
    go_upto_region 27 with (fail)
    clear g0 g1 g2 c4 c5 t0 t1 o0 o1 zq zt zo ln4
    go_upto_region 27 with (fail)
    go_cut [36, 37] (fun vx vy wx => vx = .pointer (some ⟨w10.heap.size, 0, none⟩) ∧ vy = .bool true ∧ RowAt wx w10.heap.size #[.int .u32 ou] 43 ∧ S5 wx q m mz b o s i s' (putF (putF (fun _ => none) (refP s' i) (.agg #[.int .u32 ou])) (refP s i) (.agg #[.int .u32 4294967295])) 2 (putF (putF (fun _ => none) (refP s i) (.agg #[.int .u32 calls, .int .u32 singles])) (refP s i) (.agg #[.int .u32 ((calls + 1) % 4294967296), .int .u32 singles])) 1 ∧ Below w.heap.size w wx)
    case first =>
      have c4 := KS.out.qr.cellv (j := 4) (v := .map (some m)) rfl
      have c5 := KS.out.qr.cellv (j := 5) (v := .map (some mz)) rfl
      have t0 := KS.out.tr.cellv (j := 0) (v := .int .u32 s) rfl
      have t1 := KS.out.tr.cellv (j := 1) (v := .int .u32 i) rfl
      have o0 := KS.out.orr.cellv (j := 0) (v := .int .u32 s') rfl
      have o1 := KS.out.orr.cellv (j := 1) (v := .int .u32 i) rfl
      have zq := KS.out.qr.lt
      have zt := KS.out.tr.lt
      have zo := KS.out.orr.lt
      have l1 : (Instr.lookup 44 (.map (some m)) (.agg #[.int .u32 s', .int .u32 i]) true).run Try.prog w10.drew = .ok (.tuple #[.agg #[.int .u32 ou], .bool true]) w10.drew := by
        have := (KS.out.mm.kept (w' := w10.drew) rfl).look keyR Try.underlying44 (zero43 _) (refP_pair s' i) true
        rw [show (putF (putF (fun _ => none) (refP s' i) (.agg #[.int .u32 ou])) (refP s i) (.agg #[.int .u32 4294967295])) (refP s' i) = some (.agg #[.int .u32 ou]) from by rw [putF_other _ _ (fun e => HNE.out e.symm), putF_same]] at this
        exact this
      have l2 : (Instr.lookup 44 (.map (some m)) (.agg #[.int .u32 s', .int .u32 i]) true).run Try.prog (w10.alloc (.cells #[.int .u32 0] 43)).drew = .ok (.tuple #[.agg #[.int .u32 ou], .bool true]) (w10.alloc (.cells #[.int .u32 0] 43)).drew := by
        have := ((KS.out.mm.alloc (.cells #[.int .u32 0] 43)).kept (w' := (w10.alloc (.cells #[.int .u32 0] 43)).drew) rfl).look keyR Try.underlying44 (zero43 _) (refP_pair s' i) true
        rw [show (putF (putF (fun _ => none) (refP s' i) (.agg #[.int .u32 ou])) (refP s i) (.agg #[.int .u32 4294967295])) (refP s' i) = some (.agg #[.int .u32 ou]) from by rw [putF_other _ _ (fun e => HNE.out e.symm), putF_same]] at this
        exact this
      go_region
      all_goals
        go_wp2_with fail
        go_meet
        exact ⟨rfl, rfl, RowAt.new _ _ _, KS.out.later (fun j hj => Below.heap_alloc _ _ _ hj), KB.out.trans (Below.mono (B := w10.heap.size) (by go_grown) KB.out.size)⟩
    case rest =>
      obtain ⟨rfl, rfl, hrx, hS, hB⟩ := hcut
      have g0 := hrx.cellv (j := 0) (v := .int .u32 ou) rfl
      have g1 := hrx.lt
      have g2 := hrx.lt
      have KS2 := Lib.hid hS
      have KB2 : Hid (Below w.heap.size w wc) := hB
      obtain ⟨w11, hwc⟩ : ∃ x, x = wc := ⟨_, rfl⟩
      rw [← hwc] at g0 g1 g2 KS2 KB2 ⊢
      clear hrx hS hB KS KB hwc
      have KS := KS2
      have KB := KB2
      clear KS2 KB2
      have c4 := KS.out.qr.cellv (j := 4) (v := .map (some m)) rfl
      have c5 := KS.out.qr.cellv (j := 5) (v := .map (some mz)) rfl
      have t0 := KS.out.tr.cellv (j := 0) (v := .int .u32 s) rfl
      have t1 := KS.out.tr.cellv (j := 1) (v := .int .u32 i) rfl
      have o0 := KS.out.orr.cellv (j := 0) (v := .int .u32 s') rfl
      have o1 := KS.out.orr.cellv (j := 1) (v := .int .u32 i) rfl
      have zq := KS.out.qr.lt
      have zt := KS.out.tr.lt
      have zo := KS.out.orr.lt
      have ln4 := fun ty => KS.out.mm.len (ty := ty) Try.underlying44
      go_upto_region 45 with (fail)
      clear g0 g1 g2 c4 c5 t0 t1 o0 o1 zq zt zo ln4
      go_upto_region 45 with (fail)
      go_cut [42, 43] (fun vx vy wx => vx = .pointer (some ⟨w11.heap.size, 0, none⟩) ∧ vy = .bool false ∧ RowAt wx w11.heap.size #[.int .u32 0, .int .u32 0] 47 ∧ S5 wx q m mz b o s i s' (putF (putF (fun _ => none) (refP s' i) (.agg #[.int .u32 ou])) (refP s i) (.agg #[.int .u32 4294967295])) 2 (putF (putF (fun _ => none) (refP s i) (.agg #[.int .u32 calls, .int .u32 singles])) (refP s i) (.agg #[.int .u32 ((calls + 1) % 4294967296), .int .u32 singles])) 1 ∧ Below w.heap.size w wx)
      case first =>
        have c4 := KS.out.qr.cellv (j := 4) (v := .map (some m)) rfl
        have c5 := KS.out.qr.cellv (j := 5) (v := .map (some mz)) rfl
        have t0 := KS.out.tr.cellv (j := 0) (v := .int .u32 s) rfl
        have t1 := KS.out.tr.cellv (j := 1) (v := .int .u32 i) rfl
        have o0 := KS.out.orr.cellv (j := 0) (v := .int .u32 s') rfl
        have o1 := KS.out.orr.cellv (j := 1) (v := .int .u32 i) rfl
        have zq := KS.out.qr.lt
        have zt := KS.out.tr.lt
        have zo := KS.out.orr.lt
        have l1 : (Instr.lookup 45 (.map (some mz)) (.agg #[.int .u32 s', .int .u32 i]) true).run Try.prog w11.drew = .ok (.tuple #[.agg #[.int .u32 0, .int .u32 0], .bool false]) w11.drew := by
          have := (KS.out.gm.kept (w' := w11.drew) rfl).look keyR Try.underlying45 (zero47 _) (refP_pair s' i) true
          rw [show (putF (putF (fun _ => none) (refP s i) (.agg #[.int .u32 calls, .int .u32 singles])) (refP s i) (.agg #[.int .u32 ((calls + 1) % 4294967296), .int .u32 singles])) (refP s' i) = none from by rw [putF_other _ _ (fun e => HNE.out e.symm), putF_other _ _ (fun e => HNE.out e.symm)]] at this
          exact this
        have l2 : (Instr.lookup 45 (.map (some mz)) (.agg #[.int .u32 s', .int .u32 i]) true).run Try.prog (w11.alloc (.cells #[.int .u32 0, .int .u32 0] 47)).drew = .ok (.tuple #[.agg #[.int .u32 0, .int .u32 0], .bool false]) (w11.alloc (.cells #[.int .u32 0, .int .u32 0] 47)).drew := by
          have := ((KS.out.gm.alloc (.cells #[.int .u32 0, .int .u32 0] 47)).kept (w' := (w11.alloc (.cells #[.int .u32 0, .int .u32 0] 47)).drew) rfl).look keyR Try.underlying45 (zero47 _) (refP_pair s' i) true
          rw [show (putF (putF (fun _ => none) (refP s i) (.agg #[.int .u32 calls, .int .u32 singles])) (refP s i) (.agg #[.int .u32 ((calls + 1) % 4294967296), .int .u32 singles])) (refP s' i) = none from by rw [putF_other _ _ (fun e => HNE.out e.symm), putF_other _ _ (fun e => HNE.out e.symm)]] at this
          exact this
        go_region
        all_goals
          go_wp2_with fail
          go_meet
          exact ⟨rfl, rfl, RowAt.new _ _ _, KS.out.later (fun j hj => Below.heap_alloc _ _ _ hj), KB.out.trans (Below.mono (B := w11.heap.size) (by go_grown) KB.out.size)⟩
      case rest =>
        obtain ⟨rfl, rfl, hrx, hS, hB⟩ := hcut
        have g0 := hrx.cellv (j := 0) (v := .int .u32 0) rfl
        have g1 := hrx.cellv (j := 1) (v := .int .u32 0) rfl
        have g2 := hrx.lt
        have KS2 := Lib.hid hS
        have KB2 : Hid (Below w.heap.size w wc) := hB
        obtain ⟨w12, hwc⟩ : ∃ x, x = wc := ⟨_, rfl⟩
        rw [← hwc] at g0 g1 g2 KS2 KB2 ⊢
        clear hrx hS hB KS KB hwc
        have KS := KS2
        have KB := KB2
        clear KS2 KB2
        have c4 := KS.out.qr.cellv (j := 4) (v := .map (some m)) rfl
        have c5 := KS.out.qr.cellv (j := 5) (v := .map (some mz)) rfl
        have t0 := KS.out.tr.cellv (j := 0) (v := .int .u32 s) rfl
        have t1 := KS.out.tr.cellv (j := 1) (v := .int .u32 i) rfl
        have o0 := KS.out.orr.cellv (j := 0) (v := .int .u32 s') rfl
        have o1 := KS.out.orr.cellv (j := 1) (v := .int .u32 i) rfl
        have zq := KS.out.qr.lt
        have zt := KS.out.tr.lt
        have zo := KS.out.orr.lt
        have ln4 := fun ty => KS.out.mm.len (ty := ty) Try.underlying44
        go_upto_region 53 with (fail)
        clear g0 g1 g2 c4 c5 t0 t1 o0 o1 zq zt zo ln4
        have c4 := KS.out.qr.cellv (j := 4) (v := .map (some m)) rfl
        have c5 := KS.out.qr.cellv (j := 5) (v := .map (some mz)) rfl
        have t0 := KS.out.tr.cellv (j := 0) (v := .int .u32 s) rfl
        have t1 := KS.out.tr.cellv (j := 1) (v := .int .u32 i) rfl
        have o0 := KS.out.orr.cellv (j := 0) (v := .int .u32 s') rfl
        have o1 := KS.out.orr.cellv (j := 1) (v := .int .u32 i) rfl
        have zq := KS.out.qr.lt
        have zt := KS.out.tr.lt
        have zo := KS.out.orr.lt
        have l1 : (Instr.lookup 45 (.map (some mz)) (.agg #[.int .u32 s, .int .u32 i]) true).run Try.prog w12.drew = .ok (.tuple #[.agg #[.int .u32 ((calls + 1) % 4294967296), .int .u32 singles], .bool true]) w12.drew := by
          have := (KS.out.gm.kept (w' := w12.drew) rfl).look keyR Try.underlying45 (zero47 _) (refP_pair s i) true
          rw [show (putF (putF (fun _ => none) (refP s i) (.agg #[.int .u32 calls, .int .u32 singles])) (refP s i) (.agg #[.int .u32 ((calls + 1) % 4294967296), .int .u32 singles])) (refP s i) = some (.agg #[.int .u32 ((calls + 1) % 4294967296), .int .u32 singles]) from putF_same _ _ _] at this
          exact this
        have l2 : (Instr.lookup 45 (.map (some mz)) (.agg #[.int .u32 s, .int .u32 i]) true).run Try.prog (w12.alloc (.cells #[.int .u32 0, .int .u32 0] 47)).drew = .ok (.tuple #[.agg #[.int .u32 ((calls + 1) % 4294967296), .int .u32 singles], .bool true]) (w12.alloc (.cells #[.int .u32 0, .int .u32 0] 47)).drew := by
          have := ((KS.out.gm.alloc (.cells #[.int .u32 0, .int .u32 0] 47)).kept (w' := (w12.alloc (.cells #[.int .u32 0, .int .u32 0] 47)).drew) rfl).look keyR Try.underlying45 (zero47 _) (refP_pair s i) true
          rw [show (putF (putF (fun _ => none) (refP s i) (.agg #[.int .u32 calls, .int .u32 singles])) (refP s i) (.agg #[.int .u32 ((calls + 1) % 4294967296), .int .u32 singles])) (refP s i) = some (.agg #[.int .u32 ((calls + 1) % 4294967296), .int .u32 singles]) from putF_same _ _ _] at this
          exact this
        have ln4 := fun ty => ((KS.out.gm.alloc (.cells #[.int .u32 ((calls + 1) % 4294967296), .int .u32 singles] 47)).kept (w' := (w12.alloc (.cells #[.int .u32 ((calls + 1) % 4294967296), .int .u32 singles] 47)).drew) rfl).len (ty := ty) Try.underlying45
        go_region
        all_goals
          go_wp2_with fail
          go_ret
          exact ⟨rfl, KB.out.trans (Below.mono (B := w12.heap.size) (by go_grown) KB.out.size)⟩

set_option maxHeartbeats 8000000 in
theorem main_wrf (s i : Int) (use calls singles ou oc : Int) (w : World) (hs : 0 ≤ s) (hs1 : s ≤ 4294967295) (hu : 0 ≤ use) (hu1 : use ≤ 4294967295) (hc : 0 ≤ calls) (hc1 : calls ≤ 4294967295) (hd : 0 ≤ singles) (hd1 : singles ≤ 4294967295) :
    Calls Try.prog 4 #[.int .u32 s, .int .u32 i, .bool true, .int .u32 1, .bool false, .bool true, .int .u32 calls, .int .u32 singles, .bool false, .int .u32 ou, .bool false, .int .u32 oc] w fun e w' => e = .returned (.bool true) ∧ Below w.heap.size w w' := by
  have hmm := @run_makeMap Try.prog
  have hnil := fun (W : World) (r : Option Nat) => run_eql_map_nil W 45 41 47 r Try.underlying45
  have HNE := Lib.hid (ref_ne (i := i) (xor_ne s hs hs1))
  go_enter Try.func4, Try.ntmps4
  go_wp2_with (refine wpList_insertN rfl (.tmp 53) (.tmp 54) (.tmp 56) 44 rfl 41 43 keyR Try.underlying44 (w.heap.size + 1 + 1) 0 1 (fun _ => none) rfl (MapIs.newAt IsPair (by go_size)) (refP (bits .xor .u32 s 1) i) (.agg #[.int .u32 ou]) rfl rfl (refP_pair _ i) rfl ?_)
  intro w2 h1 h2
  obtain ⟨s', hs'⟩ : ∃ s', bits .xor .u32 s 1 = s' := ⟨_, rfl⟩
  rw [hs'] at h1 h2 HNE ⊢
  have T2 : RowAt w2 w.heap.size #[.int .u32 s, .int .u32 i] 41 := h2.row (((RowAt.new w _ _).alloc _).alloc _) (by omega)
  have O2 : RowAt w2 (w.heap.size + 1) #[.int .u32 s', .int .u32 i] 41 := h2.row (RowAt.alloc (RowAt.newAt (by simp)) _) (by omega)
  have B2 : Below w.heap.size w w2 := Below.trans (by go_grown) (h2.below (by omega))
  have Z2 : w.heap.size + 1 + 1 < w2.heap.size := by have := h2.size; simp at this; omega
  have M2 := h1
  obtain ⟨m, hm⟩ : ∃ m, w.heap.size + 1 + 1 = m := ⟨_, rfl⟩
  obtain ⟨o, ho⟩ : ∃ o, w.heap.size + 1 = o := ⟨_, rfl⟩
  rw [hm] at M2 Z2 ⊢
  rw [ho] at O2 ⊢
  have mne : w.heap.size ≠ m ∧ o ≠ m := by omega
  have mB : w.heap.size ≤ m := by omega
  clear h1 h2 hs' hm ho hs hs1
  have HT := Lib.hid T2
  have HO := Lib.hid O2
  have HM := Lib.hid M2
  have HB := Lib.hid B2
  have t0 := T2.cellv (j := 0) (v := .int .u32 s) rfl
  have t1 := T2.cellv (j := 1) (v := .int .u32 i) rfl
  have o0 := O2.cellv (j := 0) (v := .int .u32 s') rfl
  have o1 := O2.cellv (j := 1) (v := .int .u32 i) rfl
  have zo := O2.lt
  have zt := T2.lt
  clear T2 O2 M2 B2
  go_wp2_with (at_mapUpdate; refine wpList_putN rfl (.tmp 59) (.tmp 60) (.tmp 62) 44 rfl 41 43 keyR Try.underlying44 m 1 2 (putF (fun _ => none) (refP s' i) (.agg #[.int .u32 ou])) rfl HM.out (refP s i) (.agg #[.int .u32 1]) rfl rfl (refP_pair s i) (by rw [putF_other _ _ HNE.out]; rfl) ?_)
  intro w3 h1 h2
  have T2 := h2.row HT.out mne.1
  have O2 := h2.row HO.out mne.2
  have Z3 : m < w3.heap.size := by have := h2.size; omega
  have HB3 := Lib.hid (HB.out.trans (h2.below mB))
  have HM3 := Lib.hid h1
  clear h1 h2 HM HB HT HO t0 t1 o0 o1 zo zt Z2
  have HT := Lib.hid T2
  have HO := Lib.hid O2
  have t0 := T2.cellv (j := 0) (v := .int .u32 s) rfl
  have t1 := T2.cellv (j := 1) (v := .int .u32 i) rfl
  have o0 := O2.cellv (j := 0) (v := .int .u32 s') rfl
  have o1 := O2.cellv (j := 1) (v := .int .u32 i) rfl
  have zo := O2.lt
  have zt := T2.lt
  clear T2 O2
  go_upto_region 10 with (fail)
  obtain ⟨m2, hm2⟩ : ∃ m2, w3.heap.size = m2 := ⟨_, rfl⟩
  have M5 : MapIs (w3.alloc (.map #[] 0)) m2 IsPair (fun _ => none) 0 := MapIs.newAt IsPair hm2.symm
  have T2 : RowAt (w3.alloc (.map #[] 0)) w.heap.size #[.int .u32 s, .int .u32 i] 41 := HT.out.alloc _
  have O2 : RowAt (w3.alloc (.map #[] 0)) o #[.int .u32 s', .int .u32 i] 41 := HO.out.alloc _
  have B5 : Below w.heap.size w (w3.alloc (.map #[] 0)) := HB3.out.alloc HB3.out.size _
  have M6 := HM3.out.alloc (.map #[] 0)
  have mm2 : m2 ≠ m := by omega
  have mne2 : w.heap.size ≠ m2 ∧ o ≠ m2 := by omega
  have m2B : w.heap.size ≤ m2 := by omega
  rw [hm2]
  generalize hW : w3.alloc (.map #[] 0) = w5 at M5 T2 O2 B5 M6 ⊢
  clear hW hm2 HM3 HB3 HT HO t0 t1 o0 o1 zo zt Z3
  have HT := Lib.hid T2
  have HO := Lib.hid O2
  have HM3 := Lib.hid M6
  have HG := Lib.hid M5
  have HB3 := Lib.hid B5
  have t0 := T2.cellv (j := 0) (v := .int .u32 s) rfl
  have t1 := T2.cellv (j := 1) (v := .int .u32 i) rfl
  have o0 := O2.cellv (j := 0) (v := .int .u32 s') rfl
  have o1 := O2.cellv (j := 1) (v := .int .u32 i) rfl
  have zo := O2.lt
  have zt := T2.lt
  have Z3 := M6.lt
  clear T2 O2 M5 M6 B5
  go_wp2_with (at_mapUpdate; refine wpList_putN rfl (.tmp 72) (.tmp 73) (.tmp 76) 45 rfl 41 47 keyR Try.underlying45 m2 0 1 (fun _ => none) rfl HG.out (refP s i) (.agg #[.int .u32 calls, .int .u32 singles]) rfl rfl (refP_pair _ i) (rfl) ?_)
  intro w6 h1 h2
  have T2 := h2.row HT.out mne2.1
  have O2 := h2.row HO.out mne2.2
  have B5 := HB3.out.trans (h2.below m2B)
  have M6 := h2.map HM3.out (fun e => mm2 e.symm)
  have M5 := h1
  clear h1 h2 HM3 HG HB3 HT HO t0 t1 o0 o1 zo zt Z3
  have HT := Lib.hid T2
  have HO := Lib.hid O2
  have HM3 := Lib.hid M6
  have HG := Lib.hid M5
  have HB3 := Lib.hid B5
  have t0 := T2.cellv (j := 0) (v := .int .u32 s) rfl
  have t1 := T2.cellv (j := 1) (v := .int .u32 i) rfl
  have o0 := O2.cellv (j := 0) (v := .int .u32 s') rfl
  have o1 := O2.cellv (j := 1) (v := .int .u32 i) rfl
  have zo := O2.lt
  have zt := T2.lt
  have Z3 := M6.lt
  clear T2 O2 M5 M6 B5
  go_upto_region 14 with (fail)
  go_upto_region 15 with (fail)
  have HQ : Hid (RowAt (w6.alloc (.cells (partC m (some m2)) 56)) w6.heap.size (partC m (some m2)) 56) := RowAt.new _ _ _
  go_wp2_with fail
  refine (new11 w6.heap.size _).mono ?_
  rintro e w8 ⟨rfl, hp, b8⟩
  have pc := parser_cell hp
  have HQ8 := Lib.hid (HQ.out.below b8 (by simp))
  have HT8 := Lib.hid ((HT.out.alloc (.cells (partC m (some m2)) 56)).below b8 (by have := HT.out.lt; simp; omega))
  have HO8 := Lib.hid ((HO.out.alloc (.cells (partC m (some m2)) 56)).below b8 (by have := HO.out.lt; simp; omega))
  have HM8 := Lib.hid ((HM3.out.alloc (.cells (partC m (some m2)) 56)).below b8 (by have := HM3.out.lt; simp; omega))
  have HG8 := Lib.hid ((HG.out.alloc (.cells (partC m (some m2)) 56)).below b8 (by have := HG.out.lt; simp; omega))
  have HB8 := Lib.hid ((HB3.out.alloc HB3.out.size (.cells (partC m (some m2)) 56)).trans (b8.mono (by have := HB3.out.size; simp; omega)))
  have hQB : w.heap.size ≤ w6.heap.size := HB3.out.size
  have hpm : (w6.alloc (.cells (partC m (some m2)) 56)).heap.size ≠ m := by have := HM3.out.lt; simp; omega
  have hpm2 : (w6.alloc (.cells (partC m (some m2)) 56)).heap.size ≠ m2 := by have := HG.out.lt; simp; omega
  simp only [World.size_alloc] at pc hpm hpm2 ⊢
  obtain ⟨q, hq⟩ : ∃ q, w6.heap.size = q := ⟨_, rfl⟩
  rw [hq] at pc HQ8 hQB hpm hpm2 ⊢
  obtain ⟨p, hpp⟩ : ∃ p, q + 1 = p := ⟨_, rfl⟩
  rw [hpp] at pc hpm hpm2 ⊢
  have HP := Lib.hid pc
  have t80 := HT8.out.cellv (j := 0) (v := .int .u32 s) rfl
  have t81 := HT8.out.cellv (j := 1) (v := .int .u32 i) rfl
  clear hp pc b8 hq hpp HQ HT HO HM3 HG HB3 t0 t1 o0 o1 zo zt Z3
  go_wp2_with fail
  have hz : (0 : Int) = 0 := by omega
  refine (conv12_some p q m m2 2 1 1 1 s i 1 0 calls singles false (putF (putF (fun _ => none) (refP s' i) (.agg #[.int .u32 ou])) (refP s i) (.agg #[.int .u32 1])) (delF (putF (putF (fun _ => none) (refP s' i) (.agg #[.int .u32 ou])) (refP s i) (.agg #[.int .u32 1])) (refP s i)) (putF (fun _ => none) (refP s i) (.agg #[.int .u32 calls, .int .u32 singles])) _ _ HP.out HQ8.out HM8.out HG8.out hpm hpm2 mm2 (by rw [putF_same]; rfl) (by rw [putF_same]; rfl) (by decide) (if_pos hz) (by rw [if_pos hz, putF_same]; rfl) rfl (by rw [putF_same]; rfl)).mono ?_
  rintro e w9 ⟨rfl, mz, hmz, q1, q2, q3, q4⟩
  subst hmz
  have nt : ¬ (w.heap.size = q ∨ w.heap.size = m ∨ w.heap.size = mz) := by
    rintro (e | e | e)
    · exact HT8.out.diff HQ8.out (by decide) e
    · exact mne.1 e
    · exact mne2.1 e
  have no : ¬ (o = q ∨ o = m ∨ o = mz) := by
    rintro (e | e | e)
    · exact HO8.out.diff HQ8.out (by decide) e
    · exact mne.2 e
    · exact mne2.2 e
  have KS : Hid (S5 w9 q m mz w.heap.size o s i s' (delF (putF (putF (fun _ => none) (refP s' i) (.agg #[.int .u32 ou])) (refP s i) (.agg #[.int .u32 1])) (refP s i)) 1 (putF (putF (fun _ => none) (refP s i) (.agg #[.int .u32 calls, .int .u32 singles])) (refP s i) (.agg #[.int .u32 ((calls + 1) % 4294967296), .int .u32 singles])) 1) := ⟨q1, q2, q3, HT8.out.kept (q4.block _ HT8.out.lt nt), HO8.out.kept (q4.block _ HO8.out.lt no)⟩
  have KB : Hid (Below w.heap.size w w9) := HB8.out.trans (q4.below (by rintro j (rfl | rfl | rfl) <;> assumption) HB8.out.size)
  clear q1 q2 q3 q4 nt no HQ8 HT8 HO8 HM8 HG8 hpm2 HB8 HP t80 t81 hpm
  obtain ⟨b, hb⟩ : ∃ b, w.heap.size = b := ⟨_, rfl⟩
  have hcap : Hid (w.heap.size = b) := hb
  rw [hb] at KS ⊢
  clear hb
  have hz0 := hz
  go_upto_region 21 with (fail)
  go_cut [34, 35] (fun vx vy wx => vx = .pointer (some ⟨w9.heap.size, 0, none⟩) ∧ vy = .bool false ∧ RowAt wx w9.heap.size #[.int .u32 0] 43 ∧ S5 wx q m mz b o s i s' (delF (putF (putF (fun _ => none) (refP s' i) (.agg #[.int .u32 ou])) (refP s i) (.agg #[.int .u32 1])) (refP s i)) 1 (putF (putF (fun _ => none) (refP s i) (.agg #[.int .u32 calls, .int .u32 singles])) (refP s i) (.agg #[.int .u32 ((calls + 1) % 4294967296), .int .u32 singles])) 1 ∧ Below w.heap.size w wx)
  case first =>
    have c4 := KS.out.qr.cellv (j := 4) (v := .map (some m)) rfl
    have c5 := KS.out.qr.cellv (j := 5) (v := .map (some mz)) rfl
    have t0 := KS.out.tr.cellv (j := 0) (v := .int .u32 s) rfl
    have t1 := KS.out.tr.cellv (j := 1) (v := .int .u32 i) rfl
    have o0 := KS.out.orr.cellv (j := 0) (v := .int .u32 s') rfl
    have o1 := KS.out.orr.cellv (j := 1) (v := .int .u32 i) rfl
    have zq := KS.out.qr.lt
    have zt := KS.out.tr.lt
    have zo := KS.out.orr.lt
    have l1 : (Instr.lookup 44 (.map (some m)) (.agg #[.int .u32 s, .int .u32 i]) true).run Try.prog w9.drew = .ok (.tuple #[.agg #[.int .u32 0], .bool false]) w9.drew := by
      have := (KS.out.mm.kept (w' := w9.drew) rfl).look keyR Try.underlying44 (zero43 _) (refP_pair s i) true
      rw [show (delF (putF (putF (fun _ => none) (refP s' i) (.agg #[.int .u32 ou])) (refP s i) (.agg #[.int .u32 1])) (refP s i)) (refP s i) = none from delF_same _ _] at this
      exact this
    have l2 : (Instr.lookup 44 (.map (some m)) (.agg #[.int .u32 s, .int .u32 i]) true).run Try.prog (w9.alloc (.cells #[.int .u32 0] 43)).drew = .ok (.tuple #[.agg #[.int .u32 0], .bool false]) (w9.alloc (.cells #[.int .u32 0] 43)).drew := by
      have := ((KS.out.mm.alloc (.cells #[.int .u32 0] 43)).kept (w' := (w9.alloc (.cells #[.int .u32 0] 43)).drew) rfl).look keyR Try.underlying44 (zero43 _) (refP_pair s i) true
      rw [show (delF (putF (putF (fun _ => none) (refP s' i) (.agg #[.int .u32 ou])) (refP s i) (.agg #[.int .u32 1])) (refP s i)) (refP s i) = none from delF_same _ _] at this
      exact this
    go_region
    all_goals
      go_wp2_with fail
      go_meet
      exact ⟨rfl, rfl, RowAt.new _ _ _, KS.out.later (fun j hj => Below.heap_alloc _ _ _ hj), KB.out.trans (Below.mono (B := w9.heap.size) (by go_grown) KB.out.size)⟩
  case rest =>
    obtain ⟨rfl, rfl, hrx, hS, hB⟩ := hcut
    have g0 := hrx.cellv (j := 0) (v := .int .u32 0) rfl
    have g1 := hrx.lt
    have g2 := hrx.lt
    have KS2 := Lib.hid hS
    have KB2 : Hid (Below w.heap.size w wc) := hB
    obtain ⟨w10, hwc⟩ : ∃ x, x = wc := ⟨_, rfl⟩
    rw [← hwc] at g0 g1 g2 KS2 KB2 ⊢
    clear hrx hS hB KS KB hwc
    have KS := KS2
    have KB := KB2
    clear KS2 KB2
    have c4 := KS.out.qr.cellv (j := 4) (v := .map (some m)) rfl
    have c5 := KS.out.qr.cellv (j := 5) (v := .map (some mz)) rfl
    have t0 := KS.out.tr.cellv (j := 0) (v := .int .u32 s) rfl
    have t1 := KS.out.tr.cellv (j := 1) (v := .int .u32 i) rfl
    have o0 := KS.out.orr.cellv (j := 0) (v := .int .u32 s') rfl
    have o1 := KS.out.orr.cellv (j := 1) (v := .int .u32 i) rfl
    have zq := KS.out.qr.lt
    have zt := KS.out.tr.lt
    have zo := KS.out.orr.lt
    have ln4 := fun ty => KS.out.mm.len (ty := ty) Try.underlying44
    go_upto_region 27 with (fail)
    clear g0 g1 g2 c4 c5 t0 t1 o0 o1 zq zt zo ln4
    go_upto_region 27 with (fail)
    go_cut [36, 37] (fun vx vy wx => vx = .pointer (some ⟨w10.heap.size, 0, none⟩) ∧ vy = .bool true ∧ RowAt wx w10.heap.size #[.int .u32 ou] 43 ∧ S5 wx q m mz b o s i s' (delF (putF (putF (fun _ => none) (refP s' i) (.agg #[.int .u32 ou])) (refP s i) (.agg #[.int .u32 1])) (refP s i)) 1 (putF (putF (fun _ => none) (refP s i) (.agg #[.int .u32 calls, .int .u32 singles])) (refP s i) (.agg #[.int .u32 ((calls + 1) % 4294967296), .int .u32 singles])) 1 ∧ Below w.heap.size w wx)
    case first =>
      have c4 := KS.out.qr.cellv (j := 4) (v := .map (some m)) rfl
      have c5 := KS.out.qr.cellv (j := 5) (v := .map (some mz)) rfl
      have t0 := KS.out.tr.cellv (j := 0) (v := .int .u32 s) rfl
      have t1 := KS.out.tr.cellv (j := 1) (v := .int .u32 i) rfl
      have o0 := KS.out.orr.cellv (j := 0) (v := .int .u32 s') rfl
      have o1 := KS.out.orr.cellv (j := 1) (v := .int .u32 i) rfl
      have zq := KS.out.qr.lt
      have zt := KS.out.tr.lt
      have zo := KS.out.orr.lt
      have l1 : (Instr.lookup 44 (.map (some m)) (.agg #[.int .u32 s', .int .u32 i]) true).run Try.prog w10.drew = .ok (.tuple #[.agg #[.int .u32 ou], .bool true]) w10.drew := by
        have := (KS.out.mm.kept (w' := w10.drew) rfl).look keyR Try.underlying44 (zero43 _) (refP_pair s' i) true
        rw [show (delF (putF (putF (fun _ => none) (refP s' i) (.agg #[.int .u32 ou])) (refP s i) (.agg #[.int .u32 1])) (refP s i)) (refP s' i) = some (.agg #[.int .u32 ou]) from by rw [delF_other _ (fun e => HNE.out e.symm), putF_other _ _ (fun e => HNE.out e.symm), putF_same]] at this
        exact this
      have l2 : (Instr.lookup 44 (.map (some m)) (.agg #[.int .u32 s', .int .u32 i]) true).run Try.prog (w10.alloc (.cells #[.int .u32 0] 43)).drew = .ok (.tuple #[.agg #[.int .u32 ou], .bool true]) (w10.alloc (.cells #[.int .u32 0] 43)).drew := by
        have := ((KS.out.mm.alloc (.cells #[.int .u32 0] 43)).kept (w' := (w10.alloc (.cells #[.int .u32 0] 43)).drew) rfl).look keyR Try.underlying44 (zero43 _) (refP_pair s' i) true
        rw [show (delF (putF (putF (fun _ => none) (refP s' i) (.agg #[.int .u32 ou])) (refP s i) (.agg #[.int .u32 1])) (refP s i)) (refP s' i) = some (.agg #[.int .u32 ou]) from by rw [delF_other _ (fun e => HNE.out e.symm), putF_other _ _ (fun e => HNE.out e.symm), putF_same]] at this
        exact this
      go_region
      all_goals
        go_wp2_with fail
        go_meet
        exact ⟨rfl, rfl, RowAt.new _ _ _, KS.out.later (fun j hj => Below.heap_alloc _ _ _ hj), KB.out.trans (Below.mono (B := w10.heap.size) (by go_grown) KB.out.size)⟩
    case rest =>
      obtain ⟨rfl, rfl, hrx, hS, hB⟩ := hcut
      have g0 := hrx.cellv (j := 0) (v := .int .u32 ou) rfl
      have g1 := hrx.lt
      have g2 := hrx.lt
      have KS2 := Lib.hid hS
      have KB2 : Hid (Below w.heap.size w wc) := hB
      obtain ⟨w11, hwc⟩ : ∃ x, x = wc := ⟨_, rfl⟩
      rw [← hwc] at g0 g1 g2 KS2 KB2 ⊢
      clear hrx hS hB KS KB hwc
      have KS := KS2
      have KB := KB2
      clear KS2 KB2
      have c4 := KS.out.qr.cellv (j := 4) (v := .map (some m)) rfl
      have c5 := KS.out.qr.cellv (j := 5) (v := .map (some mz)) rfl
      have t0 := KS.out.tr.cellv (j := 0) (v := .int .u32 s) rfl
      have t1 := KS.out.tr.cellv (j := 1) (v := .int .u32 i) rfl
      have o0 := KS.out.orr.cellv (j := 0) (v := .int .u32 s') rfl
      have o1 := KS.out.orr.cellv (j := 1) (v := .int .u32 i) rfl
      have zq := KS.out.qr.lt
      have zt := KS.out.tr.lt
      have zo := KS.out.orr.lt
      have ln4 := fun ty => KS.out.mm.len (ty := ty) Try.underlying44
      go_upto_region 45 with (fail)
      clear g0 g1 g2 c4 c5 t0 t1 o0 o1 zq zt zo ln4
      go_upto_region 45 with (fail)
      go_cut [42, 43] (fun vx vy wx => vx = .pointer (some ⟨w11.heap.size, 0, none⟩) ∧ vy = .bool false ∧ RowAt wx w11.heap.size #[.int .u32 0, .int .u32 0] 47 ∧ S5 wx q m mz b o s i s' (delF (putF (putF (fun _ => none) (refP s' i) (.agg #[.int .u32 ou])) (refP s i) (.agg #[.int .u32 1])) (refP s i)) 1 (putF (putF (fun _ => none) (refP s i) (.agg #[.int .u32 calls, .int .u32 singles])) (refP s i) (.agg #[.int .u32 ((calls + 1) % 4294967296), .int .u32 singles])) 1 ∧ Below w.heap.size w wx)
      case first =>
        have c4 := KS.out.qr.cellv (j := 4) (v := .map (some m)) rfl
        have c5 := KS.out.qr.cellv (j := 5) (v := .map (some mz)) rfl
        have t0 := KS.out.tr.cellv (j := 0) (v := .int .u32 s) rfl
        have t1 := KS.out.tr.cellv (j := 1) (v := .int .u32 i) rfl
        have o0 := KS.out.orr.cellv (j := 0) (v := .int .u32 s') rfl
        have o1 := KS.out.orr.cellv (j := 1) (v := .int .u32 i) rfl
        have zq := KS.out.qr.lt
        have zt := KS.out.tr.lt
        have zo := KS.out.orr.lt
        have l1 : (Instr.lookup 45 (.map (some mz)) (.agg #[.int .u32 s', .int .u32 i]) true).run Try.prog w11.drew = .ok (.tuple #[.agg #[.int .u32 0, .int .u32 0], .bool false]) w11.drew := by
          have := (KS.out.gm.kept (w' := w11.drew) rfl).look keyR Try.underlying45 (zero47 _) (refP_pair s' i) true
          rw [show (putF (putF (fun _ => none) (refP s i) (.agg #[.int .u32 calls, .int .u32 singles])) (refP s i) (.agg #[.int .u32 ((calls + 1) % 4294967296), .int .u32 singles])) (refP s' i) = none from by rw [putF_other _ _ (fun e => HNE.out e.symm), putF_other _ _ (fun e => HNE.out e.symm)]] at this
          exact this
        have l2 : (Instr.lookup 45 (.map (some mz)) (.agg #[.int .u32 s', .int .u32 i]) true).run Try.prog (w11.alloc (.cells #[.int .u32 0, .int .u32 0] 47)).drew = .ok (.tuple #[.agg #[.int .u32 0, .int .u32 0], .bool false]) (w11.alloc (.cells #[.int .u32 0, .int .u32 0] 47)).drew := by
          have := ((KS.out.gm.alloc (.cells #[.int .u32 0, .int .u32 0] 47)).kept (w' := (w11.alloc (.cells #[.int .u32 0, .int .u32 0] 47)).drew) rfl).look keyR Try.underlying45 (zero47 _) (refP_pair s' i) true
          rw [show (putF (putF (fun _ => none) (refP s i) (.agg #[.int .u32 calls, .int .u32 singles])) (refP s i) (.agg #[.int .u32 ((calls + 1) % 4294967296), .int .u32 singles])) (refP s' i) = none from by rw [putF_other _ _ (fun e => HNE.out e.symm), putF_other _ _ (fun e => HNE.out e.symm)]] at this
          exact this
        go_region
        all_goals
          go_wp2_with fail
          go_meet
          exact ⟨rfl, rfl, RowAt.new _ _ _, KS.out.later (fun j hj => Below.heap_alloc _ _ _ hj), KB.out.trans (Below.mono (B := w11.heap.size) (by go_grown) KB.out.size)⟩
      case rest =>
        obtain ⟨rfl, rfl, hrx, hS, hB⟩ := hcut
        have g0 := hrx.cellv (j := 0) (v := .int .u32 0) rfl
        have g1 := hrx.cellv (j := 1) (v := .int .u32 0) rfl
        have g2 := hrx.lt
        have KS2 := Lib.hid hS
        have KB2 : Hid (Below w.heap.size w wc) := hB
        obtain ⟨w12, hwc⟩ : ∃ x, x = wc := ⟨_, rfl⟩
        rw [← hwc] at g0 g1 g2 KS2 KB2 ⊢
        clear hrx hS hB KS KB hwc
        have KS := KS2
        have KB := KB2
        clear KS2 KB2
        have c4 := KS.out.qr.cellv (j := 4) (v := .map (some m)) rfl
        have c5 := KS.out.qr.cellv (j := 5) (v := .map (some mz)) rfl
        have t0 := KS.out.tr.cellv (j := 0) (v := .int .u32 s) rfl
        have t1 := KS.out.tr.cellv (j := 1) (v := .int .u32 i) rfl
        have o0 := KS.out.orr.cellv (j := 0) (v := .int .u32 s') rfl
        have o1 := KS.out.orr.cellv (j := 1) (v := .int .u32 i) rfl
        have zq := KS.out.qr.lt
        have zt := KS.out.tr.lt
        have zo := KS.out.orr.lt
        have ln4 := fun ty => KS.out.mm.len (ty := ty) Try.underlying44
        go_upto_region 53 with (fail)
        clear g0 g1 g2 c4 c5 t0 t1 o0 o1 zq zt zo ln4
        have c4 := KS.out.qr.cellv (j := 4) (v := .map (some m)) rfl
        have c5 := KS.out.qr.cellv (j := 5) (v := .map (some mz)) rfl
        have t0 := KS.out.tr.cellv (j := 0) (v := .int .u32 s) rfl
        have t1 := KS.out.tr.cellv (j := 1) (v := .int .u32 i) rfl
        have o0 := KS.out.orr.cellv (j := 0) (v := .int .u32 s') rfl
        have o1 := KS.out.orr.cellv (j := 1) (v := .int .u32 i) rfl
        have zq := KS.out.qr.lt
        have zt := KS.out.tr.lt
        have zo := KS.out.orr.lt
        have l1 : (Instr.lookup 45 (.map (some mz)) (.agg #[.int .u32 s, .int .u32 i]) true).run Try.prog w12.drew = .ok (.tuple #[.agg #[.int .u32 ((calls + 1) % 4294967296), .int .u32 singles], .bool true]) w12.drew := by
          have := (KS.out.gm.kept (w' := w12.drew) rfl).look keyR Try.underlying45 (zero47 _) (refP_pair s i) true
          rw [show (putF (putF (fun _ => none) (refP s i) (.agg #[.int .u32 calls, .int .u32 singles])) (refP s i) (.agg #[.int .u32 ((calls + 1) % 4294967296), .int .u32 singles])) (refP s i) = some (.agg #[.int .u32 ((calls + 1) % 4294967296), .int .u32 singles]) from putF_same _ _ _] at this
          exact this
        have l2 : (Instr.lookup 45 (.map (some mz)) (.agg #[.int .u32 s, .int .u32 i]) true).run Try.prog (w12.alloc (.cells #[.int .u32 0, .int .u32 0] 47)).drew = .ok (.tuple #[.agg #[.int .u32 ((calls + 1) % 4294967296), .int .u32 singles], .bool true]) (w12.alloc (.cells #[.int .u32 0, .int .u32 0] 47)).drew := by
          have := ((KS.out.gm.alloc (.cells #[.int .u32 0, .int .u32 0] 47)).kept (w' := (w12.alloc (.cells #[.int .u32 0, .int .u32 0] 47)).drew) rfl).look keyR Try.underlying45 (zero47 _) (refP_pair s i) true
          rw [show (putF (putF (fun _ => none) (refP s i) (.agg #[.int .u32 calls, .int .u32 singles])) (refP s i) (.agg #[.int .u32 ((calls + 1) % 4294967296), .int .u32 singles])) (refP s i) = some (.agg #[.int .u32 ((calls + 1) % 4294967296), .int .u32 singles]) from putF_same _ _ _] at this
          exact this
        have ln4 := fun ty => ((KS.out.gm.alloc (.cells #[.int .u32 ((calls + 1) % 4294967296), .int .u32 singles] 47)).kept (w' := (w12.alloc (.cells #[.int .u32 ((calls + 1) % 4294967296), .int .u32 singles] 47)).drew) rfl).len (ty := ty) Try.underlying45
        go_region
        all_goals
          go_wp2_with fail
          go_ret
          exact ⟨rfl, KB.out.trans (Below.mono (B := w12.heap.size) (by go_grown) KB.out.size)⟩


end Go.Proofs.Ytmbbabikbmkjpab.fnConvertSymbolUseToCallMovesOneUseToOneCall
