import Derived.Test.YteccbmopijdibaaFmtKit
import Derived.Laws.OwnMore
import Derived.Laws.AppendOwn
import Derived.Laws.IdiomStrings
import Derived.Test.YteccbmopijdibaaFmtTgA
import Derived.Test.YteccbmopijdibaaFmtTgP
namespace Go.Proofs.YteccbmopijdibaaFmt
open Go.ChangeShapes Go.WideShapes Go.ChangeAt Go.RowKit
set_option linter.unusedVariables false
set_option maxRecDepth 100000
set_option maxHeartbeats 2000000

open Go.Extern
theorem info5 : (Tryf.prog.info? 5).map (fun i => (i.zero, i.size, i.bytes)) = some (some (.int .u8 0), 1, 1) := by kernel_rfl
/-- The cells of these bytes. -/
def encB (l : List UInt8) : List Value := l.map fun b => .int .u8 (b.toNat : Int)
theorem new_cells (w : World) (cs : Array Value) (t : TypeId) (news : List Value) (h : cs.toList = news) : ∀ j u, news[j]? = some u → (w.alloc (.cells cs t)).cell? ((⟨w.heap.size, 0, none⟩ : Addr).add j) = some u := by
  intro j u hu
  rw [show (⟨w.heap.size, 0, none⟩ : Addr).add j = ⟨w.heap.size, j, none⟩ from by rw [addr_add, Nat.zero_add]]
  exact (RowAt.new w cs t).cellv (by subst h; simpa using hu)
/-- The slice that holds the model's bytes so far. -/
def Outs (B : Nat) (v : Value) (l : List UInt8) (W : World) : Prop := W.ownsRow B 5 1 v l.length (encB l)
theorem own_step {B m : Nat} {v' : Value} {l l' nb : List UInt8} {news : List Value} {w3 : World} (h : w3.ownsRow B 5 1 v' (l.length + m) (encB l ++ news)) (hl : l' = l ++ nb) (hm : nb.length = m) (hn : news = encB nb) : Outs B v' l' w3 := by
  unfold Outs
  rw [hl, List.length_append, hm, encB, List.map_append]
  subst hn
  exact h
theorem u8n (c : Nat) (h : c < 256) : (UInt8.ofNat c).toNat = c := by
  rw [show (UInt8.ofNat c).toNat = c % 256 from rfl]
  omega
theorem hxd_nat (n : Nat) (h : n < 16) : ((hxd n).toNat : Int) = ((if n < 10 then 48 + n else 87 + n : Nat) : Int) := by
  unfold hxd
  congr 1
  rw [u8n _ (by split <;> omega)]
theorem own_succ5 {w : World} {B k : Nat} {v : Value} {xs : List Value} (h : w.ownsRow B 5 1 v (k + 5) xs) : ∃ g cap, v = .slice (some ⟨g, 0, none⟩) (k + 5) cap := by
  rcases h.2 with ⟨_, h0⟩ | ⟨g, cap, _, rfl, _⟩
  · omega
  · exact ⟨g, cap, rfl⟩
theorem conv_out {W : World} {B g cap nn : Nat} {L : List Value} {b : List UInt8} (h : W.ownsRow B 5 1 (.slice (some ⟨g, 0, none⟩) (nn + 5) cap) (nn + 5) (L ++ [.int .u8 34, .int .u8 32, .int .u8 116, .int .u8 97, .int .u8 103])) (hL : L = encB (34 :: mbody b)) (hn : nn = (34 :: mbody b).length) :
    (convert 24 9 (.slice (some ⟨g, 0, none⟩) (nn + 5) cap)).run Tryf.prog W = .ok (.string ⟨(helpT b).toArray⟩) W := by
  have hx : L ++ [.int .u8 34, .int .u8 32, .int .u8 116, .int .u8 97, .int .u8 103] = encB (helpT b) := by
    rw [hL, helpT, encB, encB, List.map_cons, List.map_cons, List.map_append]; rfl
  have hl : (helpT b).length = nn + 5 := by rw [hn, helpT]; simp
  rw [hx] at h
  have := run_convert_bytes_back (P := Tryf.prog) W 24 9 5 ⟨g, 0, none⟩ cap (helpT b) Tryf.underlying24 Tryf.underlying5 Tryf.underlying9 (fun j hj => h.cells rfl j _ (by rw [encB, List.getElem?_map, List.getElem?_eq_getElem hj]; rfl))
  rw [hl] at this
  exact this
def MdlIs (x : ByteArray) (w : World) (e : Ending) (w' : World) : Prop := e = .returned (.string ⟨(helpT x.data.toList).toArray⟩) ∧ Below w.heap.size w w'
set_option maxHeartbeats 8000000 in
theorem model6 (x : ByteArray) (w : World) (hne : x.data.toList ≠ []) (hx : (x.size : Int) ≤ 1048576) : Calls Tryf.prog 6 #[.string x] w (MdlIs x w) := by
  obtain ⟨i0, hi, hz0, hz1, hz2⟩ := info_parts info5
  have hxs : x.size = x.data.toList.length := by show x.data.size = _; rw [Array.length_toList]
  have hn0 : 0 < x.data.toList.length := List.length_pos_iff.2 hne
  have hs0 : ((x.size : Int) == 0) = false := beq_false_of_ne (by omega)
  have hs1 : (x.size : Int) ≠ 0 := by omega
  have hs2 : ¬ x.size = 0 := by omega
  have hs3 : ¬ x = ByteArray.empty := fun h => by subst h; exact absurd hs2 (by decide)
  have HX := Lib.hid hxs
  clear hxs
  go_enter Tryf.func6, Tryf.ntmps6
  go_wp2_with fail
  go_loopw [3, 4, 5] (fun v3 v4 v5 wr => ∃ i : Nat, i ≤ x.data.toList.length ∧ v4 = .int .i64 i ∧ Outs w.heap.size v3 (34 :: mbody (x.data.toList.take i)) wr ∧ Below w.heap.size w wr) (fun _ v4 _ _ => x.data.toList.length - (intOf v4).toNat)
  case atStart =>
    refine ⟨0, by omega, rfl, ?_, (Below.refl _ _).alloc (Nat.le_refl _) _⟩
    exact World.ownsRow_lit w #[.int .u8 34] 1 (Nat.le_refl _) (by unfold maxLen; omega) rfl
  case round =>
    obtain ⟨i, hil, rfl, hown0, hb⟩ := hrel
    have hown := hown0
    unfold Outs at hown
    have HO := Lib.hid hown
    clear hown hown0
    have hbl : (34 :: mbody (x.data.toList.take i)).length ≤ 4 * i + 1 := by
      have := mbody_len (x.data.toList.take i)
      rw [List.length_take] at this
      simp only [List.length_cons]
      omega
    have HBL := Lib.hid (And.intro hbl hb)
    clear hbl hb
    by_cases hlt : i < x.data.toList.length
    · have hlt' : (i : Int) < (x.size : Int) := by have := HX.out; omega
      obtain ⟨c, hc⟩ : ∃ c : Nat, c = (x.data.toList[i]).toNat := ⟨_, rfl⟩
      have ms : 34 :: mbody (x.data.toList.take (i + 1)) = (34 :: mbody (x.data.toList.take i)) ++ mh c := by rw [mbody_take _ _ hlt, hc]; rfl
      have MS := Lib.hid ms
      clear ms
      have hidx : ∀ W : World, (Instr.index 9 (.string x) (.int .i64 (i : Int))).run Tryf.prog W = .ok (.int .u8 (c : Int)) W := fun W => by
        rw [run_index_string W 9 x .i64 i Tryf.underlying9, dif_pos ⟨by omega, hlt'⟩]
        have : (x[(i : Int).toNat]'(by omega)).toNat = c := by rw [hc]; simp; rfl
        rw [this]
      have hc256 : c < 256 := hc ▸ UInt8.toNat_lt _
      clear hc
      by_cases e7 : c = 7
      · subst e7
        clear hc256
        go_upto_region 13 with (fail)
        go_wp2_with (at_builtin; refine wpList_append_own _ rfl _ _ 24 rfl w.heap.size 5 i0 (.int .u8 0) 1 1 Tryf.underlying24 hi hz0 hz1 hz2 rfl (by decide) _ _ _ rfl (HO.out.alloc _) ⟨wr.heap.size, 0, none⟩ 2 2 [.int .u8 92, .int .u8 97] rfl rfl (new_cells _ _ _ _ (by rfl)) (by simp [Value.oneCell']) (by have := HBL.out.1; have := HX.out; unfold maxLen; omega) (by have := HBL.out.1; have := HX.out; omega) (by have := HBL.out.2.size; simp; omega) ?_; intro v' w3 hown' hg3 _)
        go_roundw
        case rel =>
          refine ⟨i + 1, by omega, by go_num, ?_, ?_⟩
          · exact own_step (nb := [92, 97]) hown' (MS.out.trans (by rfl)) rfl (by rfl)
          · exact (HBL.out.2.alloc HBL.out.2.size _).grown hg3 (by have := HBL.out.2.size; simp; omega) (fun j hj => (HO.out.lt j hj).1)
        case measure => simp [intOf]; omega
      have f7 : ((c : Int) == 7) = false := by simp; omega
      have g7 : ¬ (c : Int) = 7 := by omega
      by_cases e8 : c = 8
      · subst e8
        clear hc256
        go_upto_region 15 with (fail)
        go_wp2_with (at_builtin; refine wpList_append_own _ rfl _ _ 24 rfl w.heap.size 5 i0 (.int .u8 0) 1 1 Tryf.underlying24 hi hz0 hz1 hz2 rfl (by decide) _ _ _ rfl (HO.out.alloc _) ⟨wr.heap.size, 0, none⟩ 2 2 [.int .u8 92, .int .u8 98] rfl rfl (new_cells _ _ _ _ (by rfl)) (by simp [Value.oneCell']) (by have := HBL.out.1; have := HX.out; unfold maxLen; omega) (by have := HBL.out.1; have := HX.out; omega) (by have := HBL.out.2.size; simp; omega) ?_; intro v' w3 hown' hg3 _)
        go_roundw
        case rel =>
          refine ⟨i + 1, by omega, by go_num, ?_, ?_⟩
          · exact own_step (nb := [92, 98]) hown' (MS.out.trans (by rfl)) rfl (by rfl)
          · exact (HBL.out.2.alloc HBL.out.2.size _).grown hg3 (by have := HBL.out.2.size; simp; omega) (fun j hj => (HO.out.lt j hj).1)
        case measure => simp [intOf]; omega
      have f8 : ((c : Int) == 8) = false := by simp; omega
      have g8 : ¬ (c : Int) = 8 := by omega
      by_cases e12 : c = 12
      · subst e12
        clear hc256
        go_upto_region 17 with (fail)
        go_wp2_with (at_builtin; refine wpList_append_own _ rfl _ _ 24 rfl w.heap.size 5 i0 (.int .u8 0) 1 1 Tryf.underlying24 hi hz0 hz1 hz2 rfl (by decide) _ _ _ rfl (HO.out.alloc _) ⟨wr.heap.size, 0, none⟩ 2 2 [.int .u8 92, .int .u8 102] rfl rfl (new_cells _ _ _ _ (by rfl)) (by simp [Value.oneCell']) (by have := HBL.out.1; have := HX.out; unfold maxLen; omega) (by have := HBL.out.1; have := HX.out; omega) (by have := HBL.out.2.size; simp; omega) ?_; intro v' w3 hown' hg3 _)
        go_roundw
        case rel =>
          refine ⟨i + 1, by omega, by go_num, ?_, ?_⟩
          · exact own_step (nb := [92, 102]) hown' (MS.out.trans (by rfl)) rfl (by rfl)
          · exact (HBL.out.2.alloc HBL.out.2.size _).grown hg3 (by have := HBL.out.2.size; simp; omega) (fun j hj => (HO.out.lt j hj).1)
        case measure => simp [intOf]; omega
      have f12 : ((c : Int) == 12) = false := by simp; omega
      have g12 : ¬ (c : Int) = 12 := by omega
      by_cases e10 : c = 10
      · subst e10
        clear hc256
        go_upto_region 19 with (fail)
        go_wp2_with (at_builtin; refine wpList_append_own _ rfl _ _ 24 rfl w.heap.size 5 i0 (.int .u8 0) 1 1 Tryf.underlying24 hi hz0 hz1 hz2 rfl (by decide) _ _ _ rfl (HO.out.alloc _) ⟨wr.heap.size, 0, none⟩ 2 2 [.int .u8 92, .int .u8 110] rfl rfl (new_cells _ _ _ _ (by rfl)) (by simp [Value.oneCell']) (by have := HBL.out.1; have := HX.out; unfold maxLen; omega) (by have := HBL.out.1; have := HX.out; omega) (by have := HBL.out.2.size; simp; omega) ?_; intro v' w3 hown' hg3 _)
        go_roundw
        case rel =>
          refine ⟨i + 1, by omega, by go_num, ?_, ?_⟩
          · exact own_step (nb := [92, 110]) hown' (MS.out.trans (by rfl)) rfl (by rfl)
          · exact (HBL.out.2.alloc HBL.out.2.size _).grown hg3 (by have := HBL.out.2.size; simp; omega) (fun j hj => (HO.out.lt j hj).1)
        case measure => simp [intOf]; omega
      have f10 : ((c : Int) == 10) = false := by simp; omega
      have g10 : ¬ (c : Int) = 10 := by omega
      by_cases e13 : c = 13
      · subst e13
        clear hc256
        go_upto_region 21 with (fail)
        go_wp2_with (at_builtin; refine wpList_append_own _ rfl _ _ 24 rfl w.heap.size 5 i0 (.int .u8 0) 1 1 Tryf.underlying24 hi hz0 hz1 hz2 rfl (by decide) _ _ _ rfl (HO.out.alloc _) ⟨wr.heap.size, 0, none⟩ 2 2 [.int .u8 92, .int .u8 114] rfl rfl (new_cells _ _ _ _ (by rfl)) (by simp [Value.oneCell']) (by have := HBL.out.1; have := HX.out; unfold maxLen; omega) (by have := HBL.out.1; have := HX.out; omega) (by have := HBL.out.2.size; simp; omega) ?_; intro v' w3 hown' hg3 _)
        go_roundw
        case rel =>
          refine ⟨i + 1, by omega, by go_num, ?_, ?_⟩
          · exact own_step (nb := [92, 114]) hown' (MS.out.trans (by rfl)) rfl (by rfl)
          · exact (HBL.out.2.alloc HBL.out.2.size _).grown hg3 (by have := HBL.out.2.size; simp; omega) (fun j hj => (HO.out.lt j hj).1)
        case measure => simp [intOf]; omega
      have f13 : ((c : Int) == 13) = false := by simp; omega
      have g13 : ¬ (c : Int) = 13 := by omega
      by_cases e9 : c = 9
      · subst e9
        clear hc256
        go_upto_region 23 with (fail)
        go_wp2_with (at_builtin; refine wpList_append_own _ rfl _ _ 24 rfl w.heap.size 5 i0 (.int .u8 0) 1 1 Tryf.underlying24 hi hz0 hz1 hz2 rfl (by decide) _ _ _ rfl (HO.out.alloc _) ⟨wr.heap.size, 0, none⟩ 2 2 [.int .u8 92, .int .u8 116] rfl rfl (new_cells _ _ _ _ (by rfl)) (by simp [Value.oneCell']) (by have := HBL.out.1; have := HX.out; unfold maxLen; omega) (by have := HBL.out.1; have := HX.out; omega) (by have := HBL.out.2.size; simp; omega) ?_; intro v' w3 hown' hg3 _)
        go_roundw
        case rel =>
          refine ⟨i + 1, by omega, by go_num, ?_, ?_⟩
          · exact own_step (nb := [92, 116]) hown' (MS.out.trans (by rfl)) rfl (by rfl)
          · exact (HBL.out.2.alloc HBL.out.2.size _).grown hg3 (by have := HBL.out.2.size; simp; omega) (fun j hj => (HO.out.lt j hj).1)
        case measure => simp [intOf]; omega
      have f9 : ((c : Int) == 9) = false := by simp; omega
      have g9 : ¬ (c : Int) = 9 := by omega
      by_cases e11 : c = 11
      · subst e11
        clear hc256
        go_upto_region 25 with (fail)
        go_wp2_with (at_builtin; refine wpList_append_own _ rfl _ _ 24 rfl w.heap.size 5 i0 (.int .u8 0) 1 1 Tryf.underlying24 hi hz0 hz1 hz2 rfl (by decide) _ _ _ rfl (HO.out.alloc _) ⟨wr.heap.size, 0, none⟩ 2 2 [.int .u8 92, .int .u8 118] rfl rfl (new_cells _ _ _ _ (by rfl)) (by simp [Value.oneCell']) (by have := HBL.out.1; have := HX.out; unfold maxLen; omega) (by have := HBL.out.1; have := HX.out; omega) (by have := HBL.out.2.size; simp; omega) ?_; intro v' w3 hown' hg3 _)
        go_roundw
        case rel =>
          refine ⟨i + 1, by omega, by go_num, ?_, ?_⟩
          · exact own_step (nb := [92, 118]) hown' (MS.out.trans (by rfl)) rfl (by rfl)
          · exact (HBL.out.2.alloc HBL.out.2.size _).grown hg3 (by have := HBL.out.2.size; simp; omega) (fun j hj => (HO.out.lt j hj).1)
        case measure => simp [intOf]; omega
      have f11 : ((c : Int) == 11) = false := by simp; omega
      have g11 : ¬ (c : Int) = 11 := by omega
      by_cases e92 : c = 92
      · subst e92
        clear hc256
        go_upto_region 27 with (fail)
        go_wp2_with (at_builtin; refine wpList_append_own _ rfl _ _ 24 rfl w.heap.size 5 i0 (.int .u8 0) 1 1 Tryf.underlying24 hi hz0 hz1 hz2 rfl (by decide) _ _ _ rfl (HO.out.alloc _) ⟨wr.heap.size, 0, none⟩ 2 2 [.int .u8 92, .int .u8 92] rfl rfl (new_cells _ _ _ _ (by rfl)) (by simp [Value.oneCell']) (by have := HBL.out.1; have := HX.out; unfold maxLen; omega) (by have := HBL.out.1; have := HX.out; omega) (by have := HBL.out.2.size; simp; omega) ?_; intro v' w3 hown' hg3 _)
        go_roundw
        case rel =>
          refine ⟨i + 1, by omega, by go_num, ?_, ?_⟩
          · exact own_step (nb := [92, 92]) hown' (MS.out.trans (by rfl)) rfl (by rfl)
          · exact (HBL.out.2.alloc HBL.out.2.size _).grown hg3 (by have := HBL.out.2.size; simp; omega) (fun j hj => (HO.out.lt j hj).1)
        case measure => simp [intOf]; omega
      have f92 : ((c : Int) == 92) = false := by simp; omega
      have g92 : ¬ (c : Int) = 92 := by omega
      by_cases e34 : c = 34
      · subst e34
        clear hc256
        go_upto_region 29 with (fail)
        go_wp2_with (at_builtin; refine wpList_append_own _ rfl _ _ 24 rfl w.heap.size 5 i0 (.int .u8 0) 1 1 Tryf.underlying24 hi hz0 hz1 hz2 rfl (by decide) _ _ _ rfl (HO.out.alloc _) ⟨wr.heap.size, 0, none⟩ 2 2 [.int .u8 92, .int .u8 34] rfl rfl (new_cells _ _ _ _ (by rfl)) (by simp [Value.oneCell']) (by have := HBL.out.1; have := HX.out; unfold maxLen; omega) (by have := HBL.out.1; have := HX.out; omega) (by have := HBL.out.2.size; simp; omega) ?_; intro v' w3 hown' hg3 _)
        go_roundw
        case rel =>
          refine ⟨i + 1, by omega, by go_num, ?_, ?_⟩
          · exact own_step (nb := [92, 34]) hown' (MS.out.trans (by rfl)) rfl (by rfl)
          · exact (HBL.out.2.alloc HBL.out.2.size _).grown hg3 (by have := HBL.out.2.size; simp; omega) (fun j hj => (HO.out.lt j hj).1)
        case measure => simp [intOf]; omega
      have f34 : ((c : Int) == 34) = false := by simp; omega
      have g34 : ¬ (c : Int) = 34 := by omega
      have HM : mh c = if c < 32 ∨ c = 127 then [92, 120, hxd (c / 16), hxd (c % 16)] else [UInt8.ofNat c] := by
        unfold mh
        rw [if_neg e7, if_neg e8, if_neg e12, if_neg e10, if_neg e13, if_neg e9, if_neg e11, if_neg e92, if_neg e34]
      by_cases eh : c < 32 ∨ c = 127
      · have q1 : c / 16 < 16 := by omega
        have q2 : c % 16 < 16 := by omega
        rw [if_pos eh] at HM
        have HMM := Lib.hid HM
        clear HM
        by_cases e32 : c < 32
        · have f32 : (c : Int) < 32 := by omega
          clear eh
          go_upto_region 10 with (fail)
          go_wp2_with fail
          rw [show ((c : Int) / 16) = ((c / 16 : Nat) : Int) by omega]
          refine (hex8 _ q1 wr).mono ?_
          rintro e w1 ⟨d1, rfl, D1, rfl⟩
          go_wp2_with fail
          rw [show ((c : Int) % 16) = ((c % 16 : Nat) : Int) by omega]
          refine (hex8 _ q2 _).mono ?_
          rintro e w1 ⟨d2, rfl, D2, rfl⟩
          go_wp2_with (at_builtin; refine wpList_append_own _ rfl _ _ 24 rfl w.heap.size 5 i0 (.int .u8 0) 1 1 Tryf.underlying24 hi hz0 hz1 hz2 rfl (by decide) _ _ _ rfl (HO.out.alloc _) ⟨wr.heap.size, 0, none⟩ 4 4 [.int .u8 92, .int .u8 120, .int .u8 (d1 : Int), .int .u8 (d2 : Int)] rfl rfl (new_cells _ _ _ _ (by rfl)) (by simp [Value.oneCell']) (by have := HBL.out.1; have := HX.out; unfold maxLen; omega) (by have := HBL.out.1; have := HX.out; omega) (by have := HBL.out.2.size; simp; omega) ?_; intro v' w3 hown' hg3 _)
          go_roundw
          case rel =>
            refine ⟨i + 1, by omega, by go_num, ?_, ?_⟩
            · exact own_step (nb := [92, 120, hxd (c / 16), hxd (c % 16)]) hown' (MS.out.trans (by rw [HMM.out])) rfl (by simp only [encB, List.map, hxd_nat _ q1, hxd_nat _ q2, ← D1.out, ← D2.out]; rfl)
            · exact (HBL.out.2.alloc HBL.out.2.size _).grown hg3 (by have := HBL.out.2.size; simp; omega) (fun j hj => (HO.out.lt j hj).1)
          case measure => simp [intOf]; omega
        · have f127 : c = 127 := by omega
          subst f127
          go_upto_region 10 with (fail)
          go_wp2_with fail
          rw [show (7 : Int) = ((127 / 16 : Nat) : Int) by rfl]
          refine (hex8 _ q1 wr).mono ?_
          rintro e w1 ⟨d1, rfl, D1, rfl⟩
          go_wp2_with fail
          rw [show (15 : Int) = ((127 % 16 : Nat) : Int) by rfl]
          refine (hex8 _ q2 _).mono ?_
          rintro e w1 ⟨d2, rfl, D2, rfl⟩
          go_wp2_with (at_builtin; refine wpList_append_own _ rfl _ _ 24 rfl w.heap.size 5 i0 (.int .u8 0) 1 1 Tryf.underlying24 hi hz0 hz1 hz2 rfl (by decide) _ _ _ rfl (HO.out.alloc _) ⟨wr.heap.size, 0, none⟩ 4 4 [.int .u8 92, .int .u8 120, .int .u8 (d1 : Int), .int .u8 (d2 : Int)] rfl rfl (new_cells _ _ _ _ (by rfl)) (by simp [Value.oneCell']) (by have := HBL.out.1; have := HX.out; unfold maxLen; omega) (by have := HBL.out.1; have := HX.out; omega) (by have := HBL.out.2.size; simp; omega) ?_; intro v' w3 hown' hg3 _)
          go_roundw
          case rel =>
            refine ⟨i + 1, by omega, by go_num, ?_, ?_⟩
            · exact own_step (nb := [92, 120, hxd (127 / 16), hxd (127 % 16)]) hown' (MS.out.trans (by rw [HMM.out])) rfl (by simp only [encB, List.map, hxd_nat _ q1, hxd_nat _ q2, ← D1.out, ← D2.out]; rfl)
            · exact (HBL.out.2.alloc HBL.out.2.size _).grown hg3 (by have := HBL.out.2.size; simp; omega) (fun j hj => (HO.out.lt j hj).1)
          case measure => simp [intOf]; omega
      · rw [if_neg eh] at HM
        have HMM := Lib.hid HM
        clear HM
        have f32 : ¬ (c : Int) < 32 := by omega
        have f127 : ((c : Int) == 127) = false := beq_false_of_ne (by omega)
        have g127 : ¬ (c : Int) = 127 := by omega
        clear eh
        go_upto_region 11 with (fail)
        go_wp2_with (at_builtin; refine wpList_append_own _ rfl _ _ 24 rfl w.heap.size 5 i0 (.int .u8 0) 1 1 Tryf.underlying24 hi hz0 hz1 hz2 rfl (by decide) _ _ _ rfl (HO.out.alloc _) ⟨wr.heap.size, 0, none⟩ 1 1 [.int .u8 (c : Int)] rfl rfl (new_cells _ _ _ _ (by rfl)) (by simp [Value.oneCell']) (by have := HBL.out.1; have := HX.out; unfold maxLen; omega) (by have := HBL.out.1; have := HX.out; omega) (by have := HBL.out.2.size; simp; omega) ?_; intro v' w3 hown' hg3 _)
        go_roundw
        case rel =>
          refine ⟨i + 1, by omega, by go_num, ?_, ?_⟩
          · exact own_step (nb := [UInt8.ofNat c]) hown' (MS.out.trans (by rw [HMM.out])) rfl (by simp only [encB, List.map, u8n c hc256])
          · exact (HBL.out.2.alloc HBL.out.2.size _).grown hg3 (by have := HBL.out.2.size; simp; omega) (fun j hj => (HO.out.lt j hj).1)
        case measure => simp [intOf]; omega
    · obtain rfl : i = x.data.toList.length := by omega
      have hlt' : ¬ (x.data.toList.length : Int) < (x.size : Int) := by have := HX.out; omega
      rw [List.take_length] at HO HBL
      obtain ⟨nn, hnn⟩ : ∃ nn, nn = (34 :: mbody x.data.toList).length := ⟨_, rfl⟩
      obtain ⟨L, hL⟩ : ∃ L, L = encB (34 :: mbody x.data.toList) := ⟨_, rfl⟩
      have HO2 := HO.out
      rw [← hnn, ← hL] at HO2
      have HO3 := Lib.hid HO2
      have HN := Lib.hid (And.intro hnn hL)
      have hnb : nn ≤ 4194305 := by have := HBL.out.1; have := HX.out; omega
      clear HO HO2 hnn hL
      go_upto_region 30 with (fail)
      go_wp2_with (at_builtin; refine wpList_append_own _ rfl _ _ 24 rfl w.heap.size 5 i0 (.int .u8 0) 1 1 Tryf.underlying24 hi hz0 hz1 hz2 rfl (by decide) _ _ _ rfl (HO3.out.alloc _) ⟨wr.heap.size, 0, none⟩ 5 5 [.int .u8 34, .int .u8 32, .int .u8 116, .int .u8 97, .int .u8 103] rfl rfl (new_cells _ _ _ _ (by rfl)) (by simp [Value.oneCell']) (by unfold maxLen; omega) (by omega) (by have := HBL.out.2.size; simp; omega) ?_; intro v' w3 hown' hg3 _; obtain ⟨g, cap, rfl⟩ := own_succ5 hown'; have hcv := conv_out hown' HN.out.2 HN.out.1)
      go_ret
      exact ⟨rfl, (HBL.out.2.alloc HBL.out.2.size _).grown hg3 (by have := HBL.out.2.size; simp; omega) (fun j hj => (HO3.out.lt j hj).1)⟩

end Go.Proofs.YteccbmopijdibaaFmt
