import Derived.Test.YtpbajadomgdajaaDoorKit
import Derived.Test.YtpbajadomgdajaaDoorGnF
import Derived.Test.YtpbajadomgdajaaDoorGnE
import Derived.Laws.RangeString
import Derived.WalkSmall
namespace Go.Proofs.YtpbajadomgdajaaDoor
open Go.ChangeShapes Go.WideShapes Go.ChangeAt Go.RowKit
set_option linter.unusedVariables false
set_option maxRecDepth 100000
set_option maxHeartbeats 2000000

def NameIs (s : ByteArray) (w : World) (e : Ending) (w' : World) : Prop := e = .returned (.string ⟨(gname s.data.toList).toArray⟩) ∧ Below w.heap.size w w'
theorem it_alloc {w3 W1 : World} {k : Nat} {o : Obj} {s : ByteArray} {p : Nat} {row : Option Nat} (hg : (W1.alloc o).grownBy w3 row) (hk : W1.heap[k]? = some (.stringIter s p)) (hne : some k ≠ row) : w3.heap[k]? = some (.stringIter s p) := by
  have hlt : k < W1.heap.size := (Array.getElem?_eq_some_iff.1 hk).1
  rw [hg.block k (by simp; omega) hne, Below.heap_alloc _ _ _ hlt]
  exact hk
set_option maxHeartbeats 20000000 in
theorem ens10 (s : ByteArray) (hs : s.size ≤ 1048576) (w : World) : Calls Tryd.prog 10 #[.string s] w (NameIs s w) := by
  obtain ⟨i0, hi, hz0, hz1, hz2⟩ := info_parts info5
  go_enter Tryd.func10, Tryd.ntmps10
  go_wp2_with fail
  go_loopw [3, 4] (fun v3 v4 wr => ∃ (pos : Nat) (l : List UInt8) (f : Bool), pos ≤ s.size ∧ wr.heap[w.heap.size + 1]? = some (.stringIter s pos) ∧ Hid (gfold (s.data.toList.take pos) = (l, f)) ∧ Outs w.heap.size v3 l wr ∧ v4 = .bool f ∧ Below w.heap.size w wr) (fun _ _ wr => s.size - wr.iterPos (w.heap.size + 1))
  case atStart =>
    refine ⟨0, [], false, by omega, ?_, Lib.hid rfl, ?_, rfl, ?_⟩
    · have := World.iter_heap (w.alloc (Obj.cells #[] 5)) s 0
      simpa using this
    · exact (World.ownsRow_lit w #[] 0 (Nat.le_refl _) (by unfold maxLen; omega) rfl).alloc _
    · exact ((Below.refl _ _).alloc (Nat.le_refl _) _).alloc (by simp) _
  case round =>
    obtain ⟨pos, l, f, hpos, hit, HS, hown, rfl, hbw⟩ := hrel
    obtain ⟨base, cap, rfl⟩ := hown.shape
    have hpos0 := iterPos_of hit
    have hlen : l.length + 1 ≤ pos + 1 := by
      have h1 := gfold_len s.data.toList pos (by rw [← Lib.size_eq]; exact hpos)
      rw [HS.out] at h1
      have h2 := gap_ge (l, f)
      simp only at h2
      omega
    by_cases hp : pos < s.size
    · obtain ⟨hle, hk1, hnew, hr⟩ := gfold_rune s pos hp
      have hnx : ∀ ty, (Instr.next (.pointer (some ⟨w.heap.size + 1, 0, none⟩)) true ty).run Tryd.prog wr = _ := fun ty => Lib.run_next_any_at wr (w.heap.size + 1) s pos ty hit hp
      have hit2 := Lib.iterAt_heap wr (w.heap.size + 1) s pos (pos + (Utf8.decode s pos).2) hit
      have hbw2 := Lib.below_iterAt hbw (k := w.heap.size + 1) (Nat.le_succ _) s (pos + (Utf8.decode s pos).2)
      have hown2 := hown.iterAt hit (pos + (Utf8.decode s pos).2)
      rw [HS.out] at hnew
      obtain ⟨r, hrr⟩ : ∃ r : Nat, r = (Utf8.decode s pos).1 := ⟨_, rfl⟩
      obtain ⟨k, hkk⟩ : ∃ k : Nat, k = (Utf8.decode s pos).2 := ⟨_, rfl⟩
      rw [← hrr] at hnew hnx hr
      rw [← hkk] at hle hk1 hnew hnx hit2 hbw2 hown2
      obtain ⟨W1, hW1⟩ : ∃ W1, W1 = wr.iterAt (w.heap.size + 1) s (pos + k) := ⟨_, rfl⟩
      rw [← hW1] at hnx hit2 hbw2 hown2
      have HLN := Lib.hid (And.intro hlen (And.intro hpos hs))
      have HB := Lib.hid hbw2
      have HI := Lib.hid hit2
      have HO := Lib.hid hown2
      have HP := Lib.hid hpos0
      have HN := Lib.hid hnew
      have HK := Lib.hid (And.intro hle hk1)
      clear hW1 hit hown hbw hlen hrr hkk hbw2 hit2 hown2 hpos0 hnew hle hk1 HS hpos hs
      by_cases c0 : r < 48
      · have a97 : ¬ (97 : Int) ≤ (r : Int) := by omega
        have a122 : (r : Int) ≤ 122 := by omega
        have a65 : ¬ (65 : Int) ≤ (r : Int) := by omega
        have a90 : (r : Int) ≤ 90 := by omega
        have a48 : ¬ (48 : Int) ≤ (r : Int) := by omega
        have a57 : (r : Int) ≤ 57 := by omega
        have hL : isL r = false := by simp [isL]; omega
        have hD : isD r = false := by simp [isD]; omega
        cases l with
        | nil =>
          have hl0 : ¬ (0 : Int) < ((([] : List UInt8).length : Nat) : Int) := by simp
          have HG : Hid (gfold (s.data.toList.take (pos + k)) = (([] : List UInt8), f)) := Lib.hid (HN.out.trans (by simp [gstep, hL]))
          clear HN
          go_wp2_with fail
          go_roundw
          case rel => exact ⟨pos + k, _, f, HK.out.1, HI.out, HG, HO.out, rfl, HB.out⟩
          case measure =>
            rw [iterPos_of HI.out, HP.out]
            have := HK.out; omega
        | cons y l0 =>
          have hl0 : (0 : Int) < (((y :: l0).length : Nat) : Int) := by simp <;> omega
          obtain ⟨l, hl⟩ : ∃ l, l = y :: l0 := ⟨_, rfl⟩
          rw [← hl] at hl0 HO HN HLN
          have hne : l ≠ [] := fun e => by rw [e] at hl; cases hl
          rw [← hl]
          clear hl
          have hemp : l.isEmpty = false := by cases l with | nil => exact absurd rfl hne | cons _ _ => rfl
          have HG : Hid (gfold (s.data.toList.take (pos + k)) = (l, true)) := Lib.hid (HN.out.trans (by simp [gstep, hL, hD, hne]))
          clear HN
          go_wp2_with fail
          go_roundw
          case rel => exact ⟨pos + k, _, true, HK.out.1, HI.out, HG, HO.out, rfl, HB.out⟩
          case measure =>
            rw [iterPos_of HI.out, HP.out]
            have := HK.out; omega
      by_cases c1 : r ≤ 57
      · have a97 : ¬ (97 : Int) ≤ (r : Int) := by omega
        have a122 : (r : Int) ≤ 122 := by omega
        have a65 : ¬ (65 : Int) ≤ (r : Int) := by omega
        have a90 : (r : Int) ≤ 90 := by omega
        have a48 : (48 : Int) ≤ (r : Int) := by omega
        have a57 : (r : Int) ≤ 57 := by omega
        have hL : isL r = false := by simp [isL]; omega
        have hD : isD r = true := by simp [isD]; omega
        cases l with
        | nil =>
          have hl0 : ¬ (0 : Int) < ((([] : List UInt8).length : Nat) : Int) := by simp
          have HG : Hid (gfold (s.data.toList.take (pos + k)) = (([] : List UInt8), f)) := Lib.hid (HN.out.trans (by simp [gstep, hL]))
          clear HN
          go_wp2_with fail
          go_roundw
          case rel => exact ⟨pos + k, _, f, HK.out.1, HI.out, HG, HO.out, rfl, HB.out⟩
          case measure =>
            rw [iterPos_of HI.out, HP.out]
            have := HK.out; omega
        | cons y l0 =>
          have hl0 : (0 : Int) < (((y :: l0).length : Nat) : Int) := by simp <;> omega
          obtain ⟨l, hl⟩ : ∃ l, l = y :: l0 := ⟨_, rfl⟩
          rw [← hl] at hl0 HO HN HLN
          have hne : l ≠ [] := fun e => by rw [e] at hl; cases hl
          rw [← hl]
          clear hl
          have AL : isL r = true ∨ (isD r = true ∧ ((l, f) : Gs).1 ≠ []) := .inr ⟨hD, hne⟩
          cases f with
          | true =>
            have hwr : IntKind.u8.wrap (r : Int) = (r : Int) := by rw [IntKind.wrap_u8]; omega
            have HG : Hid (gfold (s.data.toList.take (pos + k)) = ((l ++ [95]) ++ [UInt8.ofNat r], false)) := Lib.hid (HN.out.trans (gstep_alnum _ _ AL))
            clear HN
            go_upto_region 8 with (fail)
            obtain ⟨v3, hv3⟩ : ∃ v3, v3 = Value.slice base l.length cap := ⟨_, rfl⟩
            rw [← hv3] at HO ⊢
            clear hv3
            go_upto_region 10 with ((at_builtin; refine wpList_append_own _ rfl _ _ 27 rfl w.heap.size 5 i0 (.int .u8 0) 1 1 Tryd.underlying27 hi hz0 hz1 hz2 rfl (by decide) _ _ _ rfl (HO.out.alloc _) ⟨W1.heap.size, 0, none⟩ 1 1 [.int .u8 95] rfl rfl (new_cells _ _ _ _ (by rfl)) (by simp [Value.oneCell']) (by have := HLN.out; (try simp only [List.length_append, List.length_cons, List.length_nil]); unfold maxLen; omega) (by have := HLN.out; (try simp only [List.length_append, List.length_cons, List.length_nil]); omega) (by have := HB.out.size; simp; omega) ?_; intro v' w3 hown' hg3 _))
            have I1 := it_alloc hg3 HI.out (HO.out.noIter HI.out)
            have O1 : Outs w.heap.size v' (l ++ [95]) w3 := own_step (nb := [95]) hown' rfl rfl rfl
            have B1 : Below w.heap.size w w3 := (HB.out.alloc HB.out.size _).grown hg3 (by have := HB.out.size; simp; omega) (fun j hj => (HO.out.lt j hj).1)
            clear hown' hg3
            have HO1 := Lib.hid O1
            have HI1 := Lib.hid I1
            have HB1 := Lib.hid B1
            clear O1 I1 B1 HO HI HB
            obtain ⟨W2, rfl⟩ : ∃ W2 : World, W2 = w3 := ⟨_, rfl⟩
            go_wp2_with ((at_builtin; refine wpList_append_own _ rfl _ _ 27 rfl w.heap.size 5 i0 (.int .u8 0) 1 1 Tryd.underlying27 hi hz0 hz1 hz2 rfl (by decide) _ _ _ rfl (HO1.out.alloc _) ⟨W2.heap.size, 0, none⟩ 1 1 [.int .u8 (r : Int)] rfl rfl (new_cells _ _ _ _ (by rfl)) (by simp [Value.oneCell']) (by have := HLN.out; (try simp only [List.length_append, List.length_cons, List.length_nil]); unfold maxLen; omega) (by have := HLN.out; (try simp only [List.length_append, List.length_cons, List.length_nil]); omega) (by have := HB1.out.size; simp; omega) ?_; intro v' w3 hown' hg3 _))
            go_roundw
            case rel =>
              exact ⟨pos + k, (l ++ [95]) ++ [UInt8.ofNat r], false, HK.out.1, it_alloc hg3 HI1.out (HO1.out.noIter HI1.out), HG, own_step (nb := [UInt8.ofNat r]) hown' rfl rfl (by simp only [encB, List.map, u8n r (by omega)]), rfl, (HB1.out.alloc HB1.out.size _).grown hg3 (by have := HB1.out.size; simp; omega) (fun j hj => (HO1.out.lt j hj).1)⟩
            case measure =>
              rw [iterPos_of (it_alloc hg3 HI1.out (HO1.out.noIter HI1.out)), HP.out]
              have := HK.out; omega
          | false =>
            have hwr : IntKind.u8.wrap (r : Int) = (r : Int) := by rw [IntKind.wrap_u8]; omega
            have HG : Hid (gfold (s.data.toList.take (pos + k)) = (l ++ [UInt8.ofNat r], false)) := Lib.hid (HN.out.trans (gstep_alnum _ _ AL))
            clear HN
            go_upto_region 10 with (fail)
            obtain ⟨v3, hv3⟩ : ∃ v3, v3 = Value.slice base l.length cap := ⟨_, rfl⟩
            rw [← hv3] at HO ⊢
            clear hv3
            go_wp2_with ((at_builtin; refine wpList_append_own _ rfl _ _ 27 rfl w.heap.size 5 i0 (.int .u8 0) 1 1 Tryd.underlying27 hi hz0 hz1 hz2 rfl (by decide) _ _ _ rfl (HO.out.alloc _) ⟨W1.heap.size, 0, none⟩ 1 1 [.int .u8 (r : Int)] rfl rfl (new_cells _ _ _ _ (by rfl)) (by simp [Value.oneCell']) (by have := HLN.out; (try simp only [List.length_append, List.length_cons, List.length_nil]); unfold maxLen; omega) (by have := HLN.out; (try simp only [List.length_append, List.length_cons, List.length_nil]); omega) (by have := HB.out.size; simp; omega) ?_; intro v' w3 hown' hg3 _))
            go_roundw
            case rel =>
              exact ⟨pos + k, l ++ [UInt8.ofNat r], false, HK.out.1, it_alloc hg3 HI.out (HO.out.noIter HI.out), HG, own_step (nb := [UInt8.ofNat r]) hown' rfl rfl (by simp only [encB, List.map, u8n r (by omega)]), rfl, (HB.out.alloc HB.out.size _).grown hg3 (by have := HB.out.size; simp; omega) (fun j hj => (HO.out.lt j hj).1)⟩
            case measure =>
              rw [iterPos_of (it_alloc hg3 HI.out (HO.out.noIter HI.out)), HP.out]
              have := HK.out; omega
      by_cases c2 : r < 65
      · have a97 : ¬ (97 : Int) ≤ (r : Int) := by omega
        have a122 : (r : Int) ≤ 122 := by omega
        have a65 : ¬ (65 : Int) ≤ (r : Int) := by omega
        have a90 : (r : Int) ≤ 90 := by omega
        have a48 : (48 : Int) ≤ (r : Int) := by omega
        have a57 : ¬ (r : Int) ≤ 57 := by omega
        have hL : isL r = false := by simp [isL]; omega
        have hD : isD r = false := by simp [isD]; omega
        cases l with
        | nil =>
          have hl0 : ¬ (0 : Int) < ((([] : List UInt8).length : Nat) : Int) := by simp
          have HG : Hid (gfold (s.data.toList.take (pos + k)) = (([] : List UInt8), f)) := Lib.hid (HN.out.trans (by simp [gstep, hL]))
          clear HN
          go_wp2_with fail
          go_roundw
          case rel => exact ⟨pos + k, _, f, HK.out.1, HI.out, HG, HO.out, rfl, HB.out⟩
          case measure =>
            rw [iterPos_of HI.out, HP.out]
            have := HK.out; omega
        | cons y l0 =>
          have hl0 : (0 : Int) < (((y :: l0).length : Nat) : Int) := by simp <;> omega
          obtain ⟨l, hl⟩ : ∃ l, l = y :: l0 := ⟨_, rfl⟩
          rw [← hl] at hl0 HO HN HLN
          have hne : l ≠ [] := fun e => by rw [e] at hl; cases hl
          rw [← hl]
          clear hl
          have hemp : l.isEmpty = false := by cases l with | nil => exact absurd rfl hne | cons _ _ => rfl
          have HG : Hid (gfold (s.data.toList.take (pos + k)) = (l, true)) := Lib.hid (HN.out.trans (by simp [gstep, hL, hD, hne]))
          clear HN
          go_wp2_with fail
          go_roundw
          case rel => exact ⟨pos + k, _, true, HK.out.1, HI.out, HG, HO.out, rfl, HB.out⟩
          case measure =>
            rw [iterPos_of HI.out, HP.out]
            have := HK.out; omega
      by_cases c3 : r ≤ 90
      · have a97 : ¬ (97 : Int) ≤ (r : Int) := by omega
        have a122 : (r : Int) ≤ 122 := by omega
        have a65 : (65 : Int) ≤ (r : Int) := by omega
        have a90 : (r : Int) ≤ 90 := by omega
        have a48 : (48 : Int) ≤ (r : Int) := by omega
        have a57 : ¬ (r : Int) ≤ 57 := by omega
        have hL : isL r = true := by simp [isL]; omega
        have hD : isD r = false := by simp [isD]; omega
        have AL : ∀ s1 : Gs, isL r = true ∨ (isD r = true ∧ s1.1 ≠ []) := fun _ => .inl hL
        cases f with
        | true =>
          have hwr : IntKind.u8.wrap (r : Int) = (r : Int) := by rw [IntKind.wrap_u8]; omega
          have HG : Hid (gfold (s.data.toList.take (pos + k)) = ((l ++ [95]) ++ [UInt8.ofNat r], false)) := Lib.hid (HN.out.trans (gstep_alnum _ _ (AL _)))
          clear HN
          go_upto_region 8 with (fail)
          obtain ⟨v3, hv3⟩ : ∃ v3, v3 = Value.slice base l.length cap := ⟨_, rfl⟩
          rw [← hv3] at HO ⊢
          clear hv3
          go_upto_region 10 with ((at_builtin; refine wpList_append_own _ rfl _ _ 27 rfl w.heap.size 5 i0 (.int .u8 0) 1 1 Tryd.underlying27 hi hz0 hz1 hz2 rfl (by decide) _ _ _ rfl (HO.out.alloc _) ⟨W1.heap.size, 0, none⟩ 1 1 [.int .u8 95] rfl rfl (new_cells _ _ _ _ (by rfl)) (by simp [Value.oneCell']) (by have := HLN.out; (try simp only [List.length_append, List.length_cons, List.length_nil]); unfold maxLen; omega) (by have := HLN.out; (try simp only [List.length_append, List.length_cons, List.length_nil]); omega) (by have := HB.out.size; simp; omega) ?_; intro v' w3 hown' hg3 _))
          have I1 := it_alloc hg3 HI.out (HO.out.noIter HI.out)
          have O1 : Outs w.heap.size v' (l ++ [95]) w3 := own_step (nb := [95]) hown' rfl rfl rfl
          have B1 : Below w.heap.size w w3 := (HB.out.alloc HB.out.size _).grown hg3 (by have := HB.out.size; simp; omega) (fun j hj => (HO.out.lt j hj).1)
          clear hown' hg3
          have HO1 := Lib.hid O1
          have HI1 := Lib.hid I1
          have HB1 := Lib.hid B1
          clear O1 I1 B1 HO HI HB
          obtain ⟨W2, rfl⟩ : ∃ W2 : World, W2 = w3 := ⟨_, rfl⟩
          go_wp2_with ((at_builtin; refine wpList_append_own _ rfl _ _ 27 rfl w.heap.size 5 i0 (.int .u8 0) 1 1 Tryd.underlying27 hi hz0 hz1 hz2 rfl (by decide) _ _ _ rfl (HO1.out.alloc _) ⟨W2.heap.size, 0, none⟩ 1 1 [.int .u8 (r : Int)] rfl rfl (new_cells _ _ _ _ (by rfl)) (by simp [Value.oneCell']) (by have := HLN.out; (try simp only [List.length_append, List.length_cons, List.length_nil]); unfold maxLen; omega) (by have := HLN.out; (try simp only [List.length_append, List.length_cons, List.length_nil]); omega) (by have := HB1.out.size; simp; omega) ?_; intro v' w3 hown' hg3 _))
          go_roundw
          case rel =>
            exact ⟨pos + k, (l ++ [95]) ++ [UInt8.ofNat r], false, HK.out.1, it_alloc hg3 HI1.out (HO1.out.noIter HI1.out), HG, own_step (nb := [UInt8.ofNat r]) hown' rfl rfl (by simp only [encB, List.map, u8n r (by omega)]), rfl, (HB1.out.alloc HB1.out.size _).grown hg3 (by have := HB1.out.size; simp; omega) (fun j hj => (HO1.out.lt j hj).1)⟩
          case measure =>
            rw [iterPos_of (it_alloc hg3 HI1.out (HO1.out.noIter HI1.out)), HP.out]
            have := HK.out; omega
        | false =>
          have hwr : IntKind.u8.wrap (r : Int) = (r : Int) := by rw [IntKind.wrap_u8]; omega
          have HG : Hid (gfold (s.data.toList.take (pos + k)) = (l ++ [UInt8.ofNat r], false)) := Lib.hid (HN.out.trans (gstep_alnum _ _ (AL _)))
          clear HN
          go_upto_region 10 with (fail)
          obtain ⟨v3, hv3⟩ : ∃ v3, v3 = Value.slice base l.length cap := ⟨_, rfl⟩
          rw [← hv3] at HO ⊢
          clear hv3
          go_wp2_with ((at_builtin; refine wpList_append_own _ rfl _ _ 27 rfl w.heap.size 5 i0 (.int .u8 0) 1 1 Tryd.underlying27 hi hz0 hz1 hz2 rfl (by decide) _ _ _ rfl (HO.out.alloc _) ⟨W1.heap.size, 0, none⟩ 1 1 [.int .u8 (r : Int)] rfl rfl (new_cells _ _ _ _ (by rfl)) (by simp [Value.oneCell']) (by have := HLN.out; (try simp only [List.length_append, List.length_cons, List.length_nil]); unfold maxLen; omega) (by have := HLN.out; (try simp only [List.length_append, List.length_cons, List.length_nil]); omega) (by have := HB.out.size; simp; omega) ?_; intro v' w3 hown' hg3 _))
          go_roundw
          case rel =>
            exact ⟨pos + k, l ++ [UInt8.ofNat r], false, HK.out.1, it_alloc hg3 HI.out (HO.out.noIter HI.out), HG, own_step (nb := [UInt8.ofNat r]) hown' rfl rfl (by simp only [encB, List.map, u8n r (by omega)]), rfl, (HB.out.alloc HB.out.size _).grown hg3 (by have := HB.out.size; simp; omega) (fun j hj => (HO.out.lt j hj).1)⟩
          case measure =>
            rw [iterPos_of (it_alloc hg3 HI.out (HO.out.noIter HI.out)), HP.out]
            have := HK.out; omega
      by_cases c4 : r ≤ 96
      · have a97 : ¬ (97 : Int) ≤ (r : Int) := by omega
        have a122 : (r : Int) ≤ 122 := by omega
        have a65 : (65 : Int) ≤ (r : Int) := by omega
        have a90 : ¬ (r : Int) ≤ 90 := by omega
        have a48 : (48 : Int) ≤ (r : Int) := by omega
        have a57 : ¬ (r : Int) ≤ 57 := by omega
        have hL : isL r = false := by simp [isL]; omega
        have hD : isD r = false := by simp [isD]; omega
        cases l with
        | nil =>
          have hl0 : ¬ (0 : Int) < ((([] : List UInt8).length : Nat) : Int) := by simp
          have HG : Hid (gfold (s.data.toList.take (pos + k)) = (([] : List UInt8), f)) := Lib.hid (HN.out.trans (by simp [gstep, hL]))
          clear HN
          go_wp2_with fail
          go_roundw
          case rel => exact ⟨pos + k, _, f, HK.out.1, HI.out, HG, HO.out, rfl, HB.out⟩
          case measure =>
            rw [iterPos_of HI.out, HP.out]
            have := HK.out; omega
        | cons y l0 =>
          have hl0 : (0 : Int) < (((y :: l0).length : Nat) : Int) := by simp <;> omega
          obtain ⟨l, hl⟩ : ∃ l, l = y :: l0 := ⟨_, rfl⟩
          rw [← hl] at hl0 HO HN HLN
          have hne : l ≠ [] := fun e => by rw [e] at hl; cases hl
          rw [← hl]
          clear hl
          have hemp : l.isEmpty = false := by cases l with | nil => exact absurd rfl hne | cons _ _ => rfl
          have HG : Hid (gfold (s.data.toList.take (pos + k)) = (l, true)) := Lib.hid (HN.out.trans (by simp [gstep, hL, hD, hne]))
          clear HN
          go_wp2_with fail
          go_roundw
          case rel => exact ⟨pos + k, _, true, HK.out.1, HI.out, HG, HO.out, rfl, HB.out⟩
          case measure =>
            rw [iterPos_of HI.out, HP.out]
            have := HK.out; omega
      by_cases c5 : r ≤ 122
      · have a97 : (97 : Int) ≤ (r : Int) := by omega
        have a122 : (r : Int) ≤ 122 := by omega
        have a65 : (65 : Int) ≤ (r : Int) := by omega
        have a90 : ¬ (r : Int) ≤ 90 := by omega
        have a48 : (48 : Int) ≤ (r : Int) := by omega
        have a57 : ¬ (r : Int) ≤ 57 := by omega
        have hL : isL r = true := by simp [isL]; omega
        have hD : isD r = false := by simp [isD]; omega
        have AL : ∀ s1 : Gs, isL r = true ∨ (isD r = true ∧ s1.1 ≠ []) := fun _ => .inl hL
        cases f with
        | true =>
          have hwr : IntKind.u8.wrap (r : Int) = (r : Int) := by rw [IntKind.wrap_u8]; omega
          have HG : Hid (gfold (s.data.toList.take (pos + k)) = ((l ++ [95]) ++ [UInt8.ofNat r], false)) := Lib.hid (HN.out.trans (gstep_alnum _ _ (AL _)))
          clear HN
          go_upto_region 8 with (fail)
          obtain ⟨v3, hv3⟩ : ∃ v3, v3 = Value.slice base l.length cap := ⟨_, rfl⟩
          rw [← hv3] at HO ⊢
          clear hv3
          go_upto_region 10 with ((at_builtin; refine wpList_append_own _ rfl _ _ 27 rfl w.heap.size 5 i0 (.int .u8 0) 1 1 Tryd.underlying27 hi hz0 hz1 hz2 rfl (by decide) _ _ _ rfl (HO.out.alloc _) ⟨W1.heap.size, 0, none⟩ 1 1 [.int .u8 95] rfl rfl (new_cells _ _ _ _ (by rfl)) (by simp [Value.oneCell']) (by have := HLN.out; (try simp only [List.length_append, List.length_cons, List.length_nil]); unfold maxLen; omega) (by have := HLN.out; (try simp only [List.length_append, List.length_cons, List.length_nil]); omega) (by have := HB.out.size; simp; omega) ?_; intro v' w3 hown' hg3 _))
          have I1 := it_alloc hg3 HI.out (HO.out.noIter HI.out)
          have O1 : Outs w.heap.size v' (l ++ [95]) w3 := own_step (nb := [95]) hown' rfl rfl rfl
          have B1 : Below w.heap.size w w3 := (HB.out.alloc HB.out.size _).grown hg3 (by have := HB.out.size; simp; omega) (fun j hj => (HO.out.lt j hj).1)
          clear hown' hg3
          have HO1 := Lib.hid O1
          have HI1 := Lib.hid I1
          have HB1 := Lib.hid B1
          clear O1 I1 B1 HO HI HB
          obtain ⟨W2, rfl⟩ : ∃ W2 : World, W2 = w3 := ⟨_, rfl⟩
          go_wp2_with ((at_builtin; refine wpList_append_own _ rfl _ _ 27 rfl w.heap.size 5 i0 (.int .u8 0) 1 1 Tryd.underlying27 hi hz0 hz1 hz2 rfl (by decide) _ _ _ rfl (HO1.out.alloc _) ⟨W2.heap.size, 0, none⟩ 1 1 [.int .u8 (r : Int)] rfl rfl (new_cells _ _ _ _ (by rfl)) (by simp [Value.oneCell']) (by have := HLN.out; (try simp only [List.length_append, List.length_cons, List.length_nil]); unfold maxLen; omega) (by have := HLN.out; (try simp only [List.length_append, List.length_cons, List.length_nil]); omega) (by have := HB1.out.size; simp; omega) ?_; intro v' w3 hown' hg3 _))
          go_roundw
          case rel =>
            exact ⟨pos + k, (l ++ [95]) ++ [UInt8.ofNat r], false, HK.out.1, it_alloc hg3 HI1.out (HO1.out.noIter HI1.out), HG, own_step (nb := [UInt8.ofNat r]) hown' rfl rfl (by simp only [encB, List.map, u8n r (by omega)]), rfl, (HB1.out.alloc HB1.out.size _).grown hg3 (by have := HB1.out.size; simp; omega) (fun j hj => (HO1.out.lt j hj).1)⟩
          case measure =>
            rw [iterPos_of (it_alloc hg3 HI1.out (HO1.out.noIter HI1.out)), HP.out]
            have := HK.out; omega
        | false =>
          have hwr : IntKind.u8.wrap (r : Int) = (r : Int) := by rw [IntKind.wrap_u8]; omega
          have HG : Hid (gfold (s.data.toList.take (pos + k)) = (l ++ [UInt8.ofNat r], false)) := Lib.hid (HN.out.trans (gstep_alnum _ _ (AL _)))
          clear HN
          go_upto_region 10 with (fail)
          obtain ⟨v3, hv3⟩ : ∃ v3, v3 = Value.slice base l.length cap := ⟨_, rfl⟩
          rw [← hv3] at HO ⊢
          clear hv3
          go_wp2_with ((at_builtin; refine wpList_append_own _ rfl _ _ 27 rfl w.heap.size 5 i0 (.int .u8 0) 1 1 Tryd.underlying27 hi hz0 hz1 hz2 rfl (by decide) _ _ _ rfl (HO.out.alloc _) ⟨W1.heap.size, 0, none⟩ 1 1 [.int .u8 (r : Int)] rfl rfl (new_cells _ _ _ _ (by rfl)) (by simp [Value.oneCell']) (by have := HLN.out; (try simp only [List.length_append, List.length_cons, List.length_nil]); unfold maxLen; omega) (by have := HLN.out; (try simp only [List.length_append, List.length_cons, List.length_nil]); omega) (by have := HB.out.size; simp; omega) ?_; intro v' w3 hown' hg3 _))
          go_roundw
          case rel =>
            exact ⟨pos + k, l ++ [UInt8.ofNat r], false, HK.out.1, it_alloc hg3 HI.out (HO.out.noIter HI.out), HG, own_step (nb := [UInt8.ofNat r]) hown' rfl rfl (by simp only [encB, List.map, u8n r (by omega)]), rfl, (HB.out.alloc HB.out.size _).grown hg3 (by have := HB.out.size; simp; omega) (fun j hj => (HO.out.lt j hj).1)⟩
          case measure =>
            rw [iterPos_of (it_alloc hg3 HI.out (HO.out.noIter HI.out)), HP.out]
            have := HK.out; omega
      have a97 : (97 : Int) ≤ (r : Int) := by omega
      have a122 : ¬ (r : Int) ≤ 122 := by omega
      have a65 : (65 : Int) ≤ (r : Int) := by omega
      have a90 : ¬ (r : Int) ≤ 90 := by omega
      have a48 : (48 : Int) ≤ (r : Int) := by omega
      have a57 : ¬ (r : Int) ≤ 57 := by omega
      have hL : isL r = false := by simp [isL]; omega
      have hD : isD r = false := by simp [isD]; omega
      cases l with
      | nil =>
        have hl0 : ¬ (0 : Int) < ((([] : List UInt8).length : Nat) : Int) := by simp
        have HG : Hid (gfold (s.data.toList.take (pos + k)) = (([] : List UInt8), f)) := Lib.hid (HN.out.trans (by simp [gstep, hL]))
        clear HN
        go_wp2_with fail
        go_roundw
        case rel => exact ⟨pos + k, _, f, HK.out.1, HI.out, HG, HO.out, rfl, HB.out⟩
        case measure =>
          rw [iterPos_of HI.out, HP.out]
          have := HK.out; omega
      | cons y l0 =>
        have hl0 : (0 : Int) < (((y :: l0).length : Nat) : Int) := by simp <;> omega
        obtain ⟨l, hl⟩ : ∃ l, l = y :: l0 := ⟨_, rfl⟩
        rw [← hl] at hl0 HO HN HLN
        have hne : l ≠ [] := fun e => by rw [e] at hl; cases hl
        rw [← hl]
        clear hl
        have hemp : l.isEmpty = false := by cases l with | nil => exact absurd rfl hne | cons _ _ => rfl
        have HG : Hid (gfold (s.data.toList.take (pos + k)) = (l, true)) := Lib.hid (HN.out.trans (by simp [gstep, hL, hD, hne]))
        clear HN
        go_wp2_with fail
        go_roundw
        case rel => exact ⟨pos + k, _, true, HK.out.1, HI.out, HG, HO.out, rfl, HB.out⟩
        case measure =>
          rw [iterPos_of HI.out, HP.out]
          have := HK.out; omega
    · have hnx : ∀ ty, (Instr.next (.pointer (some ⟨w.heap.size + 1, 0, none⟩)) true ty).run Tryd.prog wr = _ := fun ty => Lib.run_next_end_at wr (w.heap.size + 1) s pos ty hit hp
      have hall : gfold s.data.toList = (l, f) := by
        have := HS.out
        rwa [List.take_of_length_le (by rw [← Lib.size_eq]; omega)] at this
      have HA := Lib.hid hall
      have HO := Lib.hid hown
      have HB := Lib.hid hbw
      clear hall hown hbw HS hit hpos0
      cases l with
      | nil =>
        have hl0 : (((([] : List UInt8).length : Nat) : Int) == 0) = true := rfl
        go_wp2_with fail
        go_ret
        exact ⟨by unfold gname; rw [HA.out]; rfl, HB.out⟩
      | cons y l0 =>
        have hl0 : ((((y :: l0).length : Nat) : Int) == 0) = false := beq_false_of_ne (by simp <;> omega)
        obtain ⟨l, hl⟩ : ∃ l, l = y :: l0 := ⟨_, rfl⟩
        rw [← hl] at hl0 HO HA ⊢
        have hne : l ≠ [] := fun e => by rw [e] at hl; cases hl
        have hemp : l.isEmpty = false := by rw [hl]; rfl
        clear hl
        have hcv := HO.out.conv hne
        go_wp2_with fail
        go_ret
        exact ⟨by unfold gname; rw [HA.out]; simp only [hemp]; rfl, HB.out⟩

end Go.Proofs.YtpbajadomgdajaaDoor
