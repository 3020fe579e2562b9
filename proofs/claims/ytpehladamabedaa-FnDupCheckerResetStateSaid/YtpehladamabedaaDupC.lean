import Derived.Test.YtpehladamabedaaKit
import Derived.Test.YtpehladamabedaaRow
import Derived.Deep.MidRow
import Derived.Laws.Tables
namespace Go.Proofs.Ytpehladamabedaa.fnDupCheckerResetState
open Go.ChangeShapes Go.WideShapes Go.ChangeAt Go.RowKit
set_option linter.unusedVariables false
set_option maxRecDepth 100000
set_option maxHeartbeats 2000000

theorem info59 : (Try.prog.info? 59).map (·.size) = some 32 := by kernel_rfl

theorem rangeAt_of {w : World} {b : Nat} {x : Value} {cs : Array Value} {t : TypeId} (h : RowAt w b (#[x] ++ cs) t) : w.rangeAt b 1 cs.toList := by
  intro j v hv
  refine h.cellv ?_
  rw [Array.getElem?_append_right (by simp)]
  simpa using hv

theorem row_setRow {w : World} {g : Nat} {old cs : Array Value} {t : TypeId} (h : RowAt w g old t) : RowAt (w.setRow g cs) g cs t := by
  exact setRow_heap w g old cs t _ h

theorem below_setRow {w : World} {g B : Nat} {cs : Array Value} (h : B ≤ g) : Below B w (w.setRow g cs) := by
  exact ⟨rfl, rfl, rfl, by simp, fun i hi => setRow_other w g i cs (by omega)⟩

theorem reset (cs : Array Value) (b g n cap : Nat) (w : World) (hcs : cs.size = 32) (hone : cs.all (·.oneCell') = true) (h : RowAt w b (#[.slice (some ⟨g, 0, none⟩) n cap] ++ cs) 143) (hn : n ≤ cap) :
    Calls Try.prog 58 #[.pointer (some ⟨b, 0, none⟩)] w fun e w' => e = .returned (.tuple #[]) ∧ Below w.heap.size (w.setCell ⟨b, 0, none⟩ (.slice (some ⟨g, 0, none⟩) 0 cap)) w' := by
  have hb := h.lt
  have fz := h.frozen 0
  have c0 : w.cell? ⟨b, 0, none⟩ = some (.slice (some ⟨g, 0, none⟩) n cap) := (h.cell 0).trans (by rw [Array.getElem?_append_left (by simp)]; rfl)
  have hi : (Try.prog.info? 59).map (·.size) = some cs.toList.length := by rw [Array.length_toList, hcs]; exact info59
  have hi' : (Try.prog.info? 59).map (·.size) = some cs.size := by rw [hcs]; exact info59
  have hc : ∀ u, (w.setCell ⟨b, 0, none⟩ u).rangeAt b 1 cs.toList := fun u => rangeAt_of (x := u) (t := 143) (by have := h.set 0 u; rwa [show (#[Value.slice (some ⟨g, 0, none⟩) n cap] ++ cs).setIfInBounds 0 u = #[u] ++ cs from by rw [Array.setIfInBounds_append_left (by simp)]; rfl] at this)
  have HC := Lib.hid hc
  have HI := Lib.hid hi
  have HN : Hid (∀ u o, ((w.setCell ⟨b, 0, none⟩ u).alloc o).heap[w.heap.size]? = some o) := fun u o => by have := heap_alloc_new (w.setCell ⟨b, 0, none⟩ u) o; rwa [World.size_setCell] at this
  have HI' := Lib.hid hi'
  clear h hc hi hi'
  go_enter Try.func58, Try.ntmps58
  go_wp2_with (first | (with_reducible refine wpList_load_mid rfl 59 _ rfl b 1 rfl cs.toList _ (HC.out _) Try.underlying59 rfl HI.out ?_) | (refine wpList_store_row rfl 59 _ _ rfl w.heap.size cs rfl rfl 59 _ (HN.out _ _) HI'.out (by rw [hcs]; rfl) hone ?_))
  go_loopw [16] (fun v16 wr => ∃ (k : Nat) (ds : Array Value), k ≤ 32 ∧ v16 = .int .i64 k ∧ RowAt wr w.heap.size ds 59 ∧ ds.size = 32 ∧ Below w.heap.size (w.setCell ⟨b, 0, none⟩ (.slice (some ⟨g, 0, none⟩) 0 cap)) wr) (fun v16 _ => 32 - (intOf v16).toNat)
  case atStart =>
    exact ⟨0, cs, Nat.zero_le _, rfl, row_setRow (HN.out _ _), hcs, Below.trans (by go_grown) (below_setRow (Nat.le_refl _))⟩
  case round =>
    obtain ⟨k, ds, hk, rfl, hr, hd, hB⟩ := hrel
    have HR := Lib.hid hr
    by_cases hlt : k < 32
    · have ck : wr.cell? ⟨w.heap.size, k, none⟩ = some (ds[k]'(by omega)) := hr.cellv (Array.getElem?_eq_getElem _)
      have fk := hr.frozen k
      have hl := hr.lt
      clear hr
      go_wp2
      go_roundw
      case rel =>
        exact ⟨k + 1, _, by omega, by go_num, HR.out.set _ _, by simpa using hd, hB.trans (by go_grown)⟩
      case measure => simp [intOf]; omega
    · clear hr
      go_wp2
      first | (go_returns; exact ⟨rfl, hB⟩) | (refine bodyPost_ret (v := .tuple #[]) (by simp [results, Try.results58, go_sem]) rfl ⟨rfl, hB⟩) | go_outline

end Go.Proofs.Ytpehladamabedaa.fnDupCheckerResetState
