import Derived.Test.YtpehladamabedaaKit
import Derived.Test.YtpehladamabedaaDupN
namespace Go.Proofs.Ytpehladamabedaa.fnDupCheckerResetState
open Go.ChangeShapes Go.WideShapes Go.ChangeAt Go.RowKit
set_option linter.unusedVariables false
set_option maxRecDepth 100000
set_option maxHeartbeats 2000000

theorem len_ (cs : Array Value) (b : Nat) (a : Option Addr) (n cap : Nat) (w : World) (h : RowAt w b (#[.slice a n cap] ++ cs) 143) :
    Calls Try.prog 25 #[.pointer (some ⟨b, 0, none⟩)] w fun e w' => e = .returned (.int .i64 n) ∧ w' = w := by
  have c0 : w.cell? ⟨b, 0, none⟩ = some (.slice a n cap) := (h.cell 0).trans (by rw [Array.getElem?_append_left (by simp)]; rfl)
  clear h
  go_enter Try.func25, Try.ntmps25
  go_wp2
  go_ret
  exact ⟨rfl, rfl⟩

theorem cap_ (cs : Array Value) (b : Nat) (a : Option Addr) (n cap : Nat) (w : World) (h : RowAt w b (#[.slice a n cap] ++ cs) 143) :
    Calls Try.prog 26 #[.pointer (some ⟨b, 0, none⟩)] w fun e w' => e = .returned (.int .i64 cap) ∧ w' = w := by
  have c0 : w.cell? ⟨b, 0, none⟩ = some (.slice a n cap) := (h.cell 0).trans (by rw [Array.getElem?_append_left (by simp)]; rfl)
  clear h
  go_enter Try.func26, Try.ntmps26
  go_wp2
  go_ret
  exact ⟨rfl, rfl⟩

theorem bloom_ (cs : Array Value) (b : Nat) (x : Value) (w : World) (hcs : cs.size = 32) (hone : cs.all (·.oneCell') = true) (h : RowAt w b (#[x] ++ cs) 143) :
    Calls Try.prog 27 #[.pointer (some ⟨b, 0, none⟩)] w fun e w' => e = .returned (.agg cs) ∧ Below w.heap.size w w' := by
  have hb := h.lt
  have hi : (Try.prog.info? 59).map (·.size) = some cs.toList.length := by rw [Array.length_toList, hcs]; exact info59
  have hi' : (Try.prog.info? 59).map (·.size) = some cs.size := by rw [hcs]; exact info59
  have hc : ∀ o, (w.alloc o).rangeAt b 1 cs.toList := fun o => rangeAt_of (h.alloc o)
  have HC := Lib.hid hc
  have HI := Lib.hid hi
  have HI' := Lib.hid hi'
  have HN : Hid (∀ o, (w.alloc o).heap[w.heap.size]? = some o) := fun o => heap_alloc_new w o
  clear h hc hi hi'
  go_enter Try.func27, Try.ntmps27
  go_wp2_with (first | (with_reducible refine wpList_load_mid rfl 59 _ rfl b 1 rfl cs.toList _ (HC.out _) Try.underlying59 rfl HI.out ?_) | (refine wpList_store_row rfl 59 _ _ rfl w.heap.size cs rfl rfl 59 _ (HN.out _) HI'.out (by rw [hcs]; rfl) hone ?_))
  refine bodyPost_ret (results_cell_row Try.results27 _ _ w.heap.size 59 cs (0, 0) _ rfl (setRow_heap _ _ _ _ _ _ (HN.out _)) Try.underlying59 rfl HI'.out) rfl ⟨rfl, ?_⟩
  exact Below.trans (by go_grown) (below_setRow (Nat.le_refl _))

end Go.Proofs.Ytpehladamabedaa.fnDupCheckerResetState
