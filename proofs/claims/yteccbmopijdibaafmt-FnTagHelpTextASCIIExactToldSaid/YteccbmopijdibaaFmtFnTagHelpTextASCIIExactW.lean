import Derived.Test.YteccbmopijdibaaFmtKit
import Derived.Test.YteccbmopijdibaaFmtTgT
namespace Go.Proofs.YteccbmopijdibaaFmt.fnTagHelpTextASCIIExact
open Go.ChangeShapes Go.WideShapes Go.ChangeAt Go.RowKit
set_option linter.unusedVariables false
set_option maxRecDepth 100000
set_option maxHeartbeats 2000000

open Go.Extern.Stop Go.Stop Go.Extern
/-- What fmt gives for a tag of this size whose bytes are all below 128. -/
def Told (F : Interp) (x : ByteArray) : Prop := (x.size : Int) ≤ 1048576 → (∀ c ∈ x.data.toList, c.toNat < 128) → FmtStop.textOf (F "fmt.Sprintf" (rdg x.data.toList) 0) = ⟨(helpT x.data.toList).toArray⟩
def Walk (w : World) (e : Ending) (w' : World) : Prop := e = .returned (.bool true) ∧ Below w.heap.size w w'
set_option maxHeartbeats 4000000 in
theorem model6e (w : World) : Calls Tryf.prog 6 #[.string ⟨#[]⟩] w fun e w' => e = .returned (.string ⟨#[102, 114, 97, 103, 109, 101, 110, 116, 32, 116, 97, 103]⟩) ∧ Below w.heap.size w w' := by
  go_enter Tryf.func6, Tryf.ntmps6
  go_wp2
  go_ret
  exact ⟨rfl, Below.refl _ _⟩
set_option maxHeartbeats 4000000 in
theorem walk (F : Interp) (x : ByteArray) (w : World) (hF : F.answers w.tape) (hT : Told F x) : Calls Tryf.prog 3 #[.string x] w (Walk w) := by
  have HT := Lib.hid hT
  have HF := Lib.hid hF
  have HX : Hid (x.size = x.data.toList.length) := Lib.hid (by show x.data.size = _; rw [Array.length_toList])
  clear hT hF
  by_cases hx : (x.size : Int) ≤ 1048576
  · have hx1 : ¬ (1048576 : Int) < (x.size : Int) := by omega
    go_enter Tryf.func3, Tryf.ntmps3
    go_wp2_with fail
    refine (zz4 x w hx).mono ?_
    rintro e w1 ⟨rfl, rfl⟩
    go_wp2_with fail
    go_loopw [3] (fun v3 wr => ∃ i : Nat, i ≤ x.data.toList.length ∧ v3 = .int .i64 i ∧ (∀ j (hj : j < x.data.toList.length), j < i → (x.data.toList[j]).toNat < 128) ∧ wr = w) (fun v3 _ => x.data.toList.length - (intOf v3).toNat)
    case atStart => exact ⟨0, by omega, rfl, fun j _ h => by omega, rfl⟩
    case round =>
      obtain ⟨i, hil, rfl, hlow, rfl⟩ := hrel
      have HL := Lib.hid hlow
      clear hlow
      by_cases hlt : i < x.data.toList.length
      · have hlt' : (i : Int) < (x.size : Int) := by have := HX.out; omega
        obtain ⟨c, hc⟩ : ∃ c : Nat, c = (x.data.toList[i]).toNat := ⟨_, rfl⟩
        have hidx : ∀ W : World, (Instr.index 9 (.string x) (.int .i64 (i : Int))).run Tryf.prog W = .ok (.int .u8 (c : Int)) W := fun W => by
          rw [run_index_string W 9 x .i64 i Tryf.underlying9, dif_pos ⟨by omega, hlt'⟩]
          have : (x[(i : Int).toNat]'(by omega)).toNat = c := by rw [hc]; simp; rfl
          rw [this]
        have HC := Lib.hid hc
        clear hc
        by_cases h8 : c < 128
        · have h8' : ¬ (128 : Int) ≤ (c : Int) := by omega
          go_wp2_with fail
          go_roundw
          case rel =>
            refine ⟨i + 1, by omega, by go_num, fun j hj hji => ?_, by first | rfl | trivial⟩
            by_cases e : j = i
            · subst e; rw [← HC.out]; exact h8
            · exact HL.out j hj (by omega)
          case measure => simp [intOf]; omega
        · have h8' : (128 : Int) ≤ (c : Int) := by omega
          go_wp2_with fail
          go_ret
          exact ⟨rfl, Below.refl _ _⟩
      · have hlt' : ¬ (i : Int) < (x.size : Int) := by have := HX.out; omega
        have HA : Hid (∀ c ∈ x.data.toList, c.toNat < 128) := Lib.hid fun c hc => by
          obtain ⟨j, hj, rfl⟩ := List.mem_iff_getElem.1 hc
          exact HL.out j hj (by omega)
        by_cases h0 : x.data.toList = []
        · have hxe : x = ⟨#[]⟩ := by
            cases x with
            | mk d => cases d with
              | mk l => simp at h0; subst h0; rfl
          subst hxe
          go_wp2_with fail
          refine (text5e _).mono ?_
          rintro e w1 ⟨rfl, hb1⟩
          have HB1 := Lib.hid hb1
          clear hb1
          go_wp2_with fail
          refine (model6e _).mono ?_
          rintro e w2 ⟨rfl, hb2⟩
          have HB2 := Lib.hid hb2
          clear hb2
          go_wp2_with fail
          go_ret
          exact ⟨by rfl, HB1.out.trans (HB2.out.mono HB1.out.size)⟩
        · have HN := Lib.hid h0
          clear h0
          go_wp2_with fail
          refine (text5 F x _ HF.out HN.out).mono ?_
          rintro e w1 ⟨rfl, hb1⟩
          rw [HT.out hx HA.out]
          have HB1 := Lib.hid hb1
          clear hb1
          go_wp2_with fail
          refine (model6 x _ HN.out hx).mono ?_
          rintro e w2 ⟨rfl, hb2⟩
          have HB2 := Lib.hid hb2
          clear hb2
          go_wp2_with fail
          go_ret
          exact ⟨by simp, HB1.out.trans (HB2.out.mono HB1.out.size)⟩
  · have hx1 : (1048576 : Int) < (x.size : Int) := by omega
    go_enter Tryf.func3, Tryf.ntmps3
    go_wp2_with fail
    refine (zz4b x w (by omega)).mono ?_
    rintro e w1 ⟨rfl, rfl⟩
    go_wp2_with fail
    go_ret
    exact ⟨rfl, Below.refl _ _⟩

end Go.Proofs.YteccbmopijdibaaFmt.fnTagHelpTextASCIIExact
