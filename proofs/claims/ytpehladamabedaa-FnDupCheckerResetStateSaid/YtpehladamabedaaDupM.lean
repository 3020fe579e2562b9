import Derived.Test.YtpehladamabedaaKit
import Derived.Test.YtpehladamabedaaDupC
namespace Go.Proofs.Ytpehladamabedaa.fnDupCheckerResetState
open Go.ChangeShapes Go.WideShapes Go.ChangeAt Go.RowKit
set_option linter.unusedVariables false
set_option maxRecDepth 100000
set_option maxHeartbeats 2000000

theorem info356 : (Try.prog.info? 356).map (fun i => (i.zero, i.size, i.bytes)) = some (some (.agg #[.nilIface, .int .i32 0, .int .u32 0]), 3, 32) := by kernel_rfl

theorem make356 (n : Nat) (hn : n ≤ 65536) : ∃ M : Array Value, ∀ W : World, (Instr.makeSlice 141 (.int .i64 (n : Int)) (.int .i64 (n : Int))).run Try.prog W = .ok (.slice (some ⟨W.heap.size, 0, none⟩) n n) (W.alloc (.cells M 356)) := by
  obtain ⟨i0, hi, hz0, hz1, hz2⟩ := info_parts info356
  refine ⟨madeCells (Value.agg #[.nilIface, .int .i32 0, .int .u32 0]).cells ((n : Int).toNat * i0.size), fun W => ?_⟩
  have := run_makeSlice (P := Try.prog) (w := W) 141 356 i0 _ Try.underlying141 hi hz0 .i64 .i64 n n (by omega) (Int.le_refl _) (by rw [hz1]; omega) (by rw [hz2]; omega) (by omega)
  rw [this]
  rfl

theorem foldl_set (off : Nat) : ∀ (l : List Value) (k : Nat) (cells : Array Value), off + k + l.length = cells.size →
    ((l.zipIdx k).foldl (fun cs (x : Value × Nat) => cs.setIfInBounds (off + x.2) x.1) cells).toList = cells.toList.take (off + k) ++ l
  | [], k, cells, h => by
    simp at h
    simp only [List.zipIdx_nil, List.foldl_nil, List.append_nil]
    rw [h, ← Array.length_toList, List.take_length]
  | c :: l, k, cells, h => by
    simp only [List.zipIdx_cons, List.foldl_cons]
    rw [foldl_set off l (k + 1) _ (by simp at h ⊢; omega)]
    have hl : off + k < cells.toList.length := by simp at h ⊢; omega
    simp only [Array.toList_setIfInBounds]
    rw [show off + (k + 1) = (off + k) + 1 from rfl, List.take_add_one]
    have hl' : off + k < cells.size := by simpa using hl
    simp only [List.take_set, List.getElem?_set, Array.length_toList, hl', if_true]
    rw [List.set_eq_of_length_le (by simp; omega)]
    simp

theorem fill_tail (off : Nat) (cs cells : Array Value) (h : off + cs.size = cells.size) :
    (cs.zipIdx.foldl (fun xs (x : Value × Nat) => xs.setIfInBounds (off + x.2) x.1) cells) = cells.extract 0 off ++ cs := by
  apply Array.ext'
  rw [← Array.foldl_toList, Array.toList_zipIdx, foldl_set off cs.toList 0 cells (by simpa using h)]
  simp

theorem built143 (s : Value) (hs : s.cells.size = 1) (cs : Array Value) (h : cs.size = 32) : Try.prog.built 143 [(0, s), (1, .agg cs)] = some (s.cells ++ cs) := by
  have h1 : ∃ it z, Try.prog.info? 143 = some it ∧ it.zero = some z ∧ z.cells.size = 33 := by
    have : ((Try.prog.info? 143).bind (·.zero)).map (·.cells.size) = some 33 := by kernel_rfl
    simp only [Option.map_eq_some_iff, Option.bind_eq_some_iff] at this
    obtain ⟨z, ⟨it, h1, h2⟩, h3⟩ := this
    exact ⟨it, z, h1, h2, h3⟩
  obtain ⟨it, z, e1, e2, e3⟩ := h1
  have i141 : (Try.prog.info? 141).map (·.size) = some 1 := by kernel_rfl
  have i59 := info59
  obtain ⟨j0, f0, g0⟩ := Option.map_eq_some_iff.1 i141
  obtain ⟨j1, f1, g1⟩ := Option.map_eq_some_iff.1 i59
  unfold Program.built
  simp only [e1, Try.underlying143, e2, List.mapM_cons, List.mapM_nil, f0, f1]
  have hc : (Value.agg cs).cells = cs := rfl
  have q0 := fill_tail 1 cs
  obtain ⟨y, hy⟩ : ∃ y, s.cells = #[y] := ⟨s.cells[0], by apply Array.ext <;> simp [hs]; intro i h1; subst h1; rfl⟩
  simp [Instr.fill, g0, g1, h, e3, hc, hy]
  have q1 := q0 (z.cells.setIfInBounds 0 y) (by simp [h, e3])
  simp only [Array.size_zipIdx, h] at q1
  rw [q1]
  congr 1
  apply Array.ext
  · simp [e3]
  · intro i h1 h2
    have : i = 0 := by simp at h2; omega
    subst this
    simp

end Go.Proofs.Ytpehladamabedaa.fnDupCheckerResetState
