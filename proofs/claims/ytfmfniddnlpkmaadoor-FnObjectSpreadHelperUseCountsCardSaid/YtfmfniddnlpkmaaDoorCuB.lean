import Derived.Test.YtfmfniddnlpkmaaDoorKit
import Derived.Test.YtfmfniddnlpkmaaDoorCuA
import Derived.Laws.IdiomStrings
import Derived.IntWalk
namespace Go.Proofs.YtfmfniddnlpkmaaDoor
open Go.ChangeShapes Go.WideShapes Go.ChangeAt Go.RowKit
set_option linter.unusedVariables false
set_option maxRecDepth 100000
set_option maxHeartbeats 2000000

def SomeS (w : World) (e : Ending) (w' : World) : Prop := ∃ s, e = .returned (.string s) ∧ Below w.heap.size w w'

theorem addr_add (B p i : Nat) : (⟨B, p, none⟩ : Addr).add i = ⟨B, p + i, none⟩ := by
  unfold Addr.add
  split
  · rename_i h; rw [h]; rfl
  · rfl

theorem slice250 (B pos : Nat) (W : World) (h1 : 19 ≤ pos) (h2 : pos < 24) : (Instr.sliceAt 250 (.pointer (some ⟨B, 0, none⟩)) (some (.int .i64 pos)) none none).run Tryd.prog W = .ok (.slice (some ⟨B, pos, none⟩) (24 - pos) (24 - pos)) W := by
  have h : pos = 19 ∨ pos = 20 ∨ pos = 21 ∨ pos = 22 ∨ pos = 23 := by omega
  rcases h with rfl | rfl | rfl | rfl | rfl <;> (show _ = _) <;> kernel_rfl

theorem itoa30 (k : Nat) (w : World) (hk : k < 65536) : Calls Tryd.prog 30 #[.int .i64 k] w (SomeS w) := by
  by_cases h0 : k = 0
  · subst h0
    go_enter Tryd.func30, Tryd.ntmps30
    go_wp2_with fail
    go_ret
    exact ⟨_, rfl, by go_grown⟩
  · have hpos : ¬ ((k : Int) ≤ 0) := by omega
    go_enter Tryd.func30, Tryd.ntmps30
    go_wp2_with fail
    go_loopw [0, 4] (fun v0 v4 wr => ∃ (m pos : Nat) (u : Nat → UInt8), v0 = .int .i64 m ∧ v4 = .int .i64 pos ∧ 19 ≤ pos ∧ pos ≤ 24 ∧ m < 10 ^ (pos - 19) ∧ m < 65536 ∧ (0 < m ∨ pos < 24) ∧ Cells wr w.heap.size 250 24 (fun i => .int .u8 (u i).toNat) ∧ Below w.heap.size w wr) (fun v0 _ _ => (intOf v0).toNat)
    case atStart => exact ⟨k, 24, fun _ => 0, rfl, rfl, by omega, by omega, by omega, hk, .inl (by omega), Cells.of_row (RowAt.new _ _ _) rfl (fun i hi => by
        iterate 24
          rcases i with _ | i
          · rfl
        omega), by go_grown⟩
    case round =>
      obtain ⟨m, pos, u, rfl, rfl, hp1, hp2, hm, hm2, hm3, hC, hb⟩ := hrel
      have HC := Lib.hid hC
      have HM := Lib.hid hm
      clear hC hm
      by_cases hlt : 0 < m
      · have hp3 : 19 < pos := by
          by_cases e : pos = 19
          · subst e
            have := HM.out
            simp at this
            omega
          · omega
        obtain ⟨q, rfl⟩ : ∃ q, pos = q + 1 := ⟨pos - 1, by omega⟩
        have hw1 : IntKind.i64.wrap ((q : Int) + 1 - 1) = (q : Int) := by rw [IntWalk.i64_in _ (by omega)]; omega
        have HM2 : Hid (m / 10 < 10 ^ (q - 19)) := by
          have h := HM.out
          rw [show q + 1 - 19 = (q - 19) + 1 by omega, Nat.pow_succ] at h
          exact Nat.div_lt_of_lt_mul (by omega)
        have hf := HC.out.frozen q
        have hc := HC.out.cell (i := q) (by omega)
        go_wp2_with fail
        go_roundw
        case rel =>
          refine ⟨m / 10, q, fun i => if i = q then UInt8.ofNat (48 + m % 10) else u i, by go_num, by go_num, by omega, by omega, HM2.out, by omega, .inr (by omega), ?_, by go_grown⟩
          refine (HC.out.set q _).congr fun i hi => ?_
          unfold upd
          by_cases e : i = q
          · simp only [e, if_true]
            have h3 : (UInt8.ofNat (48 + m % 10)).toNat = 48 + m % 10 := by
              rw [UInt8.toNat_ofNat']
              omega
            rw [h3]
            congr 1
          · simp only [e, if_false]
        case measure => simp [intOf]; omega
      · obtain rfl : m = 0 := by omega
        clear hlt
        have hcv : (convert 251 9 (.slice (some ⟨w.heap.size, pos, none⟩) (24 - pos) (24 - pos))).run Tryd.prog wr = .ok (.string ⟨((List.range (24 - pos)).map fun i => u (pos + i)).toArray⟩) wr := by
          have h := run_convert_bytes_back (P := Tryd.prog) wr 251 9 5 ⟨w.heap.size, pos, none⟩ (24 - pos) ((List.range (24 - pos)).map fun i => u (pos + i)) Tryd.underlying251 Tryd.underlying5 Tryd.underlying9 fun i hi => by
            have hi' : i < 24 - pos := by simpa using hi
            rw [addr_add, HC.out.cell (by omega)]
            simp
          rw [show ((List.range (24 - pos)).map fun i => u (pos + i)).length = 24 - pos by simp] at h
          exact h
        have hsl := slice250 w.heap.size pos wr hp1 (by omega)
        go_wp2_with fail
        go_ret
        exact ⟨_, rfl, by go_grown⟩

theorem get29 (x : Addr) (n c i : Nat) (v : Int) (w : World) (hi : i < n) (hcell : w.cell? (x.add i) = some (.int .u32 v)) :
    Calls Tryd.prog 29 #[.slice (some x) n c, .int .i64 i, .int .u32 0] w fun e w' => e = .returned (.int .u32 v) ∧ w = w' := by
  have h1 : (i : Int) < (n : Int) := by omega
  go_enter Tryd.func29, Tryd.ntmps29
  go_wp2_with fail
  go_ret
  exact ⟨rfl, rfl⟩

end Go.Proofs.YtfmfniddnlpkmaaDoor
