import Derived.Test.YtpehladamabedaaKit
import Derived.Test.YtpehladamabedaaDupM
namespace Go.Proofs.Ytpehladamabedaa.fnDupCheckerResetState
open Go.ChangeShapes Go.WideShapes Go.ChangeAt Go.RowKit
set_option linter.unusedVariables false
set_option maxRecDepth 100000
set_option maxHeartbeats 2000000

theorem mk (cs : Array Value) (n : Nat) (w : World) (hcs : cs.size = 32) (hone : cs.all (·.oneCell') = true) (hn : n ≤ 65536) :
    Calls Try.prog 23 #[.int .i64 n, .agg cs] w fun e w' => ∃ b g, e = .returned (.pointer (some ⟨b, 0, none⟩)) ∧ w.heap.size ≤ b ∧ RowAt w' b (#[.slice (some ⟨g, 0, none⟩) n n] ++ cs) 143 ∧ Below w.heap.size w w' := by
  obtain ⟨M, hM⟩ := make356 n hn
  have hi : (Try.prog.info? 59).map (·.size) = some cs.toList.length := by rw [Array.length_toList, hcs]; exact info59
  have hB := fun W a l c => run_build (P := Try.prog) W 143 #[(0, .slice a l c), (1, .agg cs)] _ (built143 (.slice a l c) rfl cs hcs)
  go_enter Try.func23, Try.ntmps23
  go_wp2_with fail
  refine wp_region_held (S := fun W => W.rangeAt w.heap.size 0 cs.toList) (by kernel_rfl) ?_
  refine wpAnyH_take (i := 0) (v := .int .i64 n) rfl (by kernel_rfl) (by kernel_rfl) (by kernel_rfl) (fun _ _ _ h => h) (Or.inl ⟨by rfl, fun W _ => by simp [execOp, go_sem, Act.eval]⟩) ?_ ?_
  · intro j v hv
    exact (RowAt.new w cs 59).cellv (by simpa using hv)
  refine wpAnyH_take (i := 2) (v := .agg cs.toList.toArray) rfl (by kernel_rfl) (by kernel_rfl) (by kernel_rfl) (fun _ _ _ h => h) (yieldsIf_load_mid rfl 59 _ rfl w.heap.size 0 rfl cs.toList _ (fun W h => h) Try.underlying59 rfl hi) ?_ ?_
  · intro j v hv
    exact (RowAt.new w cs 59).cellv (by simpa using hv)
  refine wpAnyH_all (rs := [1]) (by kernel_rfl) (by simp) ?_
  intro i h1
  obtain rfl : i = 1 := by simpa using h1
  simp [wpOp, Oper.wp, execOp, Act.eval, Act.put, Region.wanted, yielded, Oper.upon, hM]
  refine Or.inl ⟨?_, ?_⟩
  · intro j v hv
    exact ((RowAt.new w cs 59).alloc _).cellv (by simpa using hv)
  refine wpAnyH_all (rs := [3]) (by kernel_rfl) (by simp) ?_
  intro i h1
  obtain rfl : i = 3 := by simpa using h1
  simp [wpOp, Oper.wp, execOp, Act.eval, Act.put, Region.wanted, yielded, Oper.upon, hB]
  refine Or.inl ⟨?_, ?_⟩
  · intro j v hv
    exact ((RowAt.new w cs 59).alloc _).cellv (by simpa using hv)
  refine wpAnyH_all (rs := [4]) (by kernel_rfl) (by simp) ?_
  intro i h1
  obtain rfl : i = 4 := by simpa using h1
  simp [wpOp, Oper.wp, execOp, Act.eval, Act.put, Region.wanted, yielded, Oper.upon, go_sem]
  refine Or.inl ⟨?_, ?_⟩
  · intro j v hv
    exact (((RowAt.new w cs 59).alloc _).alloc _).cellv (by simpa using hv)
  refine wpAnyH_all (rs := [5]) (by kernel_rfl) (by simp) ?_
  intro i h1
  obtain rfl : i = 5 := by simpa using h1
  simp [wpOp, Oper.wp, execOp, Act.eval, Act.put, Region.wanted, yielded, Oper.upon, go_sem]
  refine Or.inl ⟨?_, ?_⟩
  · intro j v hv
    exact (((RowAt.new w cs 59).alloc _).alloc _).cellv (by simpa using hv)
  refine wpAnyH_done (by kernel_rfl) ?_ _
  clear hM hB
  go_wp2_with fail
  go_ret
  refine ⟨_, w.heap.size + 1, rfl, by omega, ?_, ?_⟩
  · have := RowAt.new (((w.alloc (.cells cs 59)).drew).alloc (.cells M 356)) (#[.slice (some ⟨w.heap.size + 1, 0, none⟩) n n] ++ cs) 143
    rw [show (((w.alloc (.cells cs 59)).drew).alloc (.cells M 356)).heap.size = w.heap.size + 1 + 1 from by go_size] at this
    exact this
  · have : Below w.heap.size w (((w.alloc (.cells cs 59)).drew.alloc (.cells M 356)).alloc (.cells (#[.slice (some ⟨w.heap.size + 1, 0, none⟩) n n] ++ cs) 143)) := by go_grown
    exact this

end Go.Proofs.Ytpehladamabedaa.fnDupCheckerResetState
