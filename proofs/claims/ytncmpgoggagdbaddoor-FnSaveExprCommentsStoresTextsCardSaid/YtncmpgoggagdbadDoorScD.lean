import Derived.Test.YtncmpgoggagdbadDoorKit
import Derived.Test.YtncmpgoggagdbadDoorScC
import Derived.WalkMore
namespace Go.Proofs.YtncmpgoggagdbadDoor
open Go.ChangeShapes Go.WideShapes Go.ChangeAt Go.RowKit
set_option linter.unusedVariables false
set_option maxRecDepth 100000
set_option maxHeartbeats 2000000

theorem hp16 (t : ByteArray) (w : World) (h2 : 2 ≤ t.size) (h3 : t.size ≤ 1000000) (hne : ¬ (byteAt t 0 = 47 ∧ byteAt t 1 = 42)) : Calls Tryd.prog 16 #[.string t, .string ⟨#[47, 42]⟩] w fun e w' => e = .returned (.bool false) ∧ w = w' := by
  have hq : ((t.extract 0 2).toList == (⟨#[47, 42]⟩ : ByteArray).toList) = false := by
    rw [beq_eq_false_iff_ne]
    intro e
    apply hne
    have e1 : (t.data.extract 0 2).toList = [47, 42] := by
      rw [ByteArray.toList_eq, ByteArray.toList_eq] at e
      simpa using e
    have hs : t.data.size = t.size := rfl
    have e2 : t.data.extract 0 2 = #[47, 42] := by
      apply Array.toList_inj.1
      exact e1
    have k0 : t.data[0]? = some 47 := by
      have := congrArg (fun a => a[0]?) e2
      simp only [Array.getElem?_extract] at this
      rw [if_pos (by omega)] at this
      simpa using this
    have k1 : t.data[1]? = some 42 := by
      have := congrArg (fun a => a[1]?) e2
      simp only [Array.getElem?_extract] at this
      rw [if_pos (by omega)] at this
      simpa using this
    unfold byteAt
    rw [Array.getD_eq_getD_getElem?, Array.getD_eq_getD_getElem?, k0, k1]
    exact ⟨rfl, rfl⟩
  have hsl : ∀ W, (Instr.slice 9 (.string t) none (some (.int .i64 2)) none).run Tryd.prog W = .ok (.string (t.extract 0 2)) W := fun W => run_slice_string_h W 9 t Tryd.underlying9 .i64 2 (by omega) (by omega)
  have hsz : (⟨#[47, 42]⟩ : ByteArray).size = 2 := rfl
  go_enter Tryd.func16, Tryd.ntmps16
  go_wp2_with fail
  go_ret
  have hq2 : ¬ (t.extract 0 2).toList = [47, 42] := by simpa using hq
  exact ⟨by simp [hq2], rfl⟩

theorem byteAt_extract (S : ByteArray) (s l i : Nat) (h : s + l ≤ S.size) (hi : i < l) : byteAt (S.extract s (s + l)) i = byteAt S (s + i) := by
  unfold byteAt
  have hs : S.data.size = S.size := rfl
  have e : (S.extract s (s + l)).data = S.data.extract s (s + l) := by simp
  rw [e, Array.getD_eq_getD_getElem?, Array.getD_eq_getD_getElem?, Array.getElem?_extract, if_pos (by omega)]
theorem hp13 (t : ByteArray) (w : World) (h2 : 2 ≤ t.size) (h3 : t.size ≤ 1000000) (hne : ¬ (byteAt t 0 = 47 ∧ byteAt t 1 = 42)) : Calls Tryd.prog 13 #[.string t, .string ⟨#[47, 42]⟩] w fun e w' => e = .returned (.bool false) ∧ w = w' := by
  go_enter Tryd.func13, Tryd.ntmps13
  go_wp2_with fail
  refine (hp16 t w h2 h3 hne).mono ?_
  rintro e w' ⟨rfl, rfl⟩
  go_wp2_with fail
  go_ret
  exact ⟨rfl, rfl⟩
def Tx (S : ByteArray) (s l : Nat) (w : World) (e : Ending) (w' : World) : Prop := e = .returned (.string (S.extract s (s + l))) ∧ Below w.heap.size w w'
theorem text11 (p s l : Nat) (S : ByteArray) (w : World) (hS : S.size ≤ 65536) (hP : w.cell? ⟨p, 60, none⟩ = some (.string S)) (hR : Rg S s l) :
    Calls Tryd.prog 11 #[.pointer (some ⟨p, 57, none⟩), .agg #[.int .i32 s, .int .i32 l]] w (Tx S s l w) := by
  obtain ⟨r1, r2⟩ := hR
  have zp := cell_lt hP
  have hsl : ∀ W, (Instr.slice 9 (.string S) (some (.int .i32 s)) (some (.int .i32 ((s : Int) + l))) none).run Tryd.prog W = .ok (.string (S.extract s (s + l))) W := fun W => by
    have := run_slice_string W 9 S .i32 .i32 (s : Int) ((s : Int) + l) Tryd.underlying9 (by omega) (by omega) (by omega)
    rw [show ((s : Int) + l).toNat = s + l by omega, Int.toNat_natCast] at this
    exact this
  have hsz : (S.extract s (s + l)).size = l := by rw [ByteArray.size_extract]; omega
  have hq : 2 ≤ l → ¬ (byteAt (S.extract s (s + l)) 0 = 47 ∧ byteAt (S.extract s (s + l)) 1 = 42) := fun h => by
    rw [byteAt_extract S s l 0 r1 (by omega), byteAt_extract S s l 1 r1 (by omega)]
    exact r2 h
  have HP := Lib.hid hP
  clear hP r2
  go_enter Tryd.func11, Tryd.ntmps11
  go_wp2_with fail
  have r3 : RowAt (w.alloc (.cells #[.int .i32 s, .int .i32 l] 37)) w.heap.size #[.int .i32 s, .int .i32 l] 37 := RowAt.new _ _ _
  have B3 : Below w.heap.size w (w.alloc (.cells #[.int .i32 s, .int .i32 l] 37)) := by go_grown
  have z3 : (w.alloc (.cells #[.int .i32 s, .int .i32 l] 37)).heap.size = w.heap.size + 1 := by simp
  generalize hW : w.alloc (.cells #[.int .i32 s, .int .i32 l] 37) = W at r3 B3 z3 ⊢
  clear hW
  have e60 := later HP.out B3
  have e0 := r3.cellv (j := 0) (v := .int .i32 s) rfl
  have e1 := r3.cellv (j := 1) (v := .int .i32 l) rfl
  generalize hT : S.extract s (s + l) = t at hsl hsz hq ⊢
  have HQ := Lib.hid hq
  have HT := Lib.hid hT
  clear hq hT r3
  go_step3
  go_wp2_with fail
  go_region_with (go_at_call 12; refine (end12 s l _ (by omega) (by omega) (by omega)).mono ?_; rintro e w2 ⟨rfl, h2⟩; have k60 := later (w := W.drew) e60 h2; have k0 := later (w := W.drew) e0 h2; have k1 := later (w := W.drew) e1 h2; have B2 : Below w.heap.size w w2 := Below.trans B3.drew (h2.mono B3.size))
  all_goals
    by_cases h2 : l < 2
    · as_aux_lemma =>
      go_wp2_with fail
      try rw [Exit.noGoto_ret]
      go_ret
      unfold Tx
      rw [HT.out]
      first | exact ⟨rfl, B2⟩ | exact ⟨rfl, below_drewN B2 _⟩
    · as_aux_lemma =>
      go_wp2_with fail
      refine (hp13 t _ (by omega) (by omega) (HQ.out (by omega))).mono ?_
      rintro e w3 ⟨rfl, rfl⟩
      go_wp2_with fail
      try rw [Exit.noGoto_ret]
      go_ret
      unfold Tx
      rw [HT.out]
      first | exact ⟨rfl, B2⟩ | exact ⟨rfl, below_drewN B2 _⟩

end Go.Proofs.YtncmpgoggagdbadDoor
