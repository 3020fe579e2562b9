import Derived.Test.YtgefhkjidldjlacKit
import Derived.Test.YtgefhkjidldjlacBig
import Derived.Test.YtgefhkjidldjlacAs
import Derived.Maps.OwnSet
namespace Go.Proofs.Ytgefhkjidldjlac.fnMarkExprAsParenthesizedFlagIsShallow
open Go.ChangeShapes Go.WideShapes Go.ChangeAt Go.RowKit
set_option linter.unusedVariables false
set_option maxRecDepth 100000
set_option maxHeartbeats 2000000

theorem key_ok (a : Int) (w : World) : (Instr.checkKey true 10000 49 (.agg #[.int .i32 a])).run Try.prog w = .ok () w := by kernel_rfl
theorem find_none (a : Int) (w : World) : (Instr.findKey 49 (.agg #[.int .i32 a]) []).run Try.prog w = .ok none w := by kernel_rfl
theorem zero128 (w : World) : (zeroValue 128).run Try.prog w = .ok (.slice none 0 0) w := by kernel_rfl

theorem look_empty (M c : Nat) (a : Int) (w : World) (h : w.heap[M]? = some (.map #[] c)) :
    (Instr.lookup 52 (.map (some M)) (.agg #[.int .i32 a]) true).run Try.prog w = .ok (.tuple #[.slice none 0 0, .bool false]) w := by
  simp [Instr.lookup, run_underlying Try.underlying52, MapKept.run_getObj_map h, key_ok, find_none, zero128]

theorem build242 (M : Nat) (w : World) : (Instr.build 242 #[(16, .map (some M))]).run Try.prog w = .ok (.agg (PZ242.setIfInBounds 113 (.map (some M)))) w := by kernel_rfl

theorem below_set {w : World} (b off : Nat) (u : Value) (o1 o2 : Obj) (n : Nat) (hb : b < w.heap.size) :
    Below w.heap.size (w.setCell ⟨b, off, none⟩ u) ((((w.alloc o1).alloc o2).setCell ⟨b, off, none⟩ u).drewN n) := by
  have hs : ∀ (W : World) (p : Addr) (v : Value), (W.setCell p v).heap.size = W.heap.size := fun W p v => by simp [World.setCell]
  refine ⟨rfl, rfl, rfl, by rw [World.heap_drewN, hs, hs]; simp; omega, fun k hk => ?_⟩
  rw [World.heap_drewN]
  by_cases h : k = b
  · subst h
    simp only [World.setCell, Array.getElem?_modify, if_true]
    rw [Below.heap_alloc _ _ _ (by simp; omega), Below.heap_alloc _ _ _ hb]
  · rw [Below.heap_setCell _ _ _ _ h, Below.heap_setCell _ _ _ _ h, Below.heap_alloc _ _ _ (by simp; omega), Below.heap_alloc _ _ _ hk]

theorem meth53 (M c b Bp : Nat) (l a : Int) (isAsync : Bool) (w : World) (hp : w.cell? ⟨Bp, 113, none⟩ = some (.map (some M))) (hM : w.heap[M]? = some (.map #[] c))
    (x : Value) (hbc : w.cell? ⟨b, 4, none⟩ = some x) (hbf : w.frozen? ⟨b, 4, none⟩ = false) (hBp : Bp < w.heap.size) (hb : b < w.heap.size) (hMl : M < w.heap.size) :
    Calls Try.prog 38 #[.pointer (some ⟨Bp, 0, none⟩), .agg #[.iface 53 (.pointer (some ⟨b, 0, none⟩)), .int .i32 l], .agg #[.int .i32 a], .bool isAsync] w
      fun e w' => e = .returned (.tuple #[]) ∧ Below w.heap.size (w.setCell ⟨b, 4, none⟩ (.bool true)) w' := by
  cases isAsync
  · have hlk2 := fun n => look_empty M c a (((w.alloc (.cells #[.iface 53 (.pointer (some ⟨b, 0, none⟩)), .int .i32 l] 64)).alloc (.cells #[.int .i32 a] 49)).drewN n) (by
      show (((w.alloc _).alloc _)).heap[M]? = _
      rw [Below.heap_alloc _ _ _ (by simp; omega), Below.heap_alloc _ _ _ hMl, hM])
    clear hM
    go_enter Try.func38, Try.ntmps38
    go_wp2
    go_quiet (fail)
    go_wp2
    go_end0
    exact ⟨rfl, below_set b 4 _ _ _ _ hb⟩
  · go_enter Try.func38, Try.ntmps38
    go_wp2
    go_end0
    exact ⟨rfl, by go_grown⟩

theorem meth57 (M c b Bp : Nat) (l a : Int) (isAsync : Bool) (w : World) (hp : w.cell? ⟨Bp, 113, none⟩ = some (.map (some M))) (hM : w.heap[M]? = some (.map #[] c))
    (x : Value) (hbc : w.cell? ⟨b, 4, none⟩ = some x) (hbf : w.frozen? ⟨b, 4, none⟩ = false) (hBp : Bp < w.heap.size) (hb : b < w.heap.size) (hMl : M < w.heap.size) :
    Calls Try.prog 38 #[.pointer (some ⟨Bp, 0, none⟩), .agg #[.iface 57 (.pointer (some ⟨b, 0, none⟩)), .int .i32 l], .agg #[.int .i32 a], .bool isAsync] w
      fun e w' => e = .returned (.tuple #[]) ∧ Below w.heap.size (w.setCell ⟨b, 4, none⟩ (.bool true)) w' := by
  cases isAsync
  · have hlk2 := fun n => look_empty M c a (((w.alloc (.cells #[.iface 57 (.pointer (some ⟨b, 0, none⟩)), .int .i32 l] 64)).alloc (.cells #[.int .i32 a] 49)).drewN n) (by
      show (((w.alloc _).alloc _)).heap[M]? = _
      rw [Below.heap_alloc _ _ _ (by simp; omega), Below.heap_alloc _ _ _ hMl, hM])
    clear hM
    go_enter Try.func38, Try.ntmps38
    go_wp2
    go_quiet (fail)
    go_wp2
    go_end0
    exact ⟨rfl, below_set b 4 _ _ _ _ hb⟩
  · go_enter Try.func38, Try.ntmps38
    go_wp2
    go_end0
    exact ⟨rfl, by go_grown⟩

theorem meth75 (M c b Bp : Nat) (l a : Int) (isAsync : Bool) (w : World) (hp : w.cell? ⟨Bp, 113, none⟩ = some (.map (some M))) (hM : w.heap[M]? = some (.map #[] c))
    (x : Value) (hbc : w.cell? ⟨b, 14, none⟩ = some x) (hbf : w.frozen? ⟨b, 14, none⟩ = false) (hBp : Bp < w.heap.size) (hb : b < w.heap.size) (hMl : M < w.heap.size) :
    Calls Try.prog 38 #[.pointer (some ⟨Bp, 0, none⟩), .agg #[.iface 75 (.pointer (some ⟨b, 0, none⟩)), .int .i32 l], .agg #[.int .i32 a], .bool isAsync] w
      fun e w' => e = .returned (.tuple #[]) ∧ Below w.heap.size (w.setCell ⟨b, 14, none⟩ (.bool true)) w' := by
  cases isAsync
  · have hlk2 := fun n => look_empty M c a (((w.alloc (.cells #[.iface 75 (.pointer (some ⟨b, 0, none⟩)), .int .i32 l] 64)).alloc (.cells #[.int .i32 a] 49)).drewN n) (by
      show (((w.alloc _).alloc _)).heap[M]? = _
      rw [Below.heap_alloc _ _ _ (by simp; omega), Below.heap_alloc _ _ _ hMl, hM])
    clear hM
    go_enter Try.func38, Try.ntmps38
    go_wp2
    go_quiet (fail)
    go_wp2
    go_end0
    exact ⟨rfl, below_set b 14 _ _ _ _ hb⟩
  · go_enter Try.func38, Try.ntmps38
    go_wp2
    go_end0
    exact ⟨rfl, by go_grown⟩

theorem meth87 (M c b Bp : Nat) (l a : Int) (isAsync : Bool) (w : World) (hp : w.cell? ⟨Bp, 113, none⟩ = some (.map (some M))) (hM : w.heap[M]? = some (.map #[] c))
    (x : Value) (hbc : w.cell? ⟨b, 7, none⟩ = some x) (hbf : w.frozen? ⟨b, 7, none⟩ = false) (hBp : Bp < w.heap.size) (hb : b < w.heap.size) (hMl : M < w.heap.size) :
    Calls Try.prog 38 #[.pointer (some ⟨Bp, 0, none⟩), .agg #[.iface 87 (.pointer (some ⟨b, 0, none⟩)), .int .i32 l], .agg #[.int .i32 a], .bool isAsync] w
      fun e w' => e = .returned (.tuple #[]) ∧ Below w.heap.size (w.setCell ⟨b, 7, none⟩ (.bool true)) w' := by
  cases isAsync
  · have hlk2 := fun n => look_empty M c a (((w.alloc (.cells #[.iface 87 (.pointer (some ⟨b, 0, none⟩)), .int .i32 l] 64)).alloc (.cells #[.int .i32 a] 49)).drewN n) (by
      show (((w.alloc _).alloc _)).heap[M]? = _
      rw [Below.heap_alloc _ _ _ (by simp; omega), Below.heap_alloc _ _ _ hMl, hM])
    clear hM
    go_enter Try.func38, Try.ntmps38
    go_wp2
    go_quiet (fail)
    go_wp2
    go_end0
    exact ⟨rfl, below_set b 7 _ _ _ _ hb⟩
  · go_enter Try.func38, Try.ntmps38
    go_wp2
    go_end0
    exact ⟨rfl, by go_grown⟩

theorem meth61 (M c b Bp : Nat) (l a : Int) (isAsync : Bool) (w : World) (hp : w.cell? ⟨Bp, 113, none⟩ = some (.map (some M))) (hM : w.heap[M]? = some (.map #[] c))
    (x : Value) (hbc : w.cell? ⟨b, 5, none⟩ = some x) (hbf : w.frozen? ⟨b, 5, none⟩ = false) (hBp : Bp < w.heap.size) (hb : b < w.heap.size) (hMl : M < w.heap.size) :
    Calls Try.prog 38 #[.pointer (some ⟨Bp, 0, none⟩), .agg #[.iface 61 (.pointer (some ⟨b, 0, none⟩)), .int .i32 l], .agg #[.int .i32 a], .bool isAsync] w
      fun e w' => e = .returned (.tuple #[]) ∧ Below w.heap.size (w.setCell ⟨b, 5, none⟩ (.bool true)) w' := by
  cases isAsync
  · have hlk2 := fun n => look_empty M c a (((w.alloc (.cells #[.iface 61 (.pointer (some ⟨b, 0, none⟩)), .int .i32 l] 64)).alloc (.cells #[.int .i32 a] 49)).drewN n) (by
      show (((w.alloc _).alloc _)).heap[M]? = _
      rw [Below.heap_alloc _ _ _ (by simp; omega), Below.heap_alloc _ _ _ hMl, hM])
    clear hM
    go_enter Try.func38, Try.ntmps38
    go_wp2
    go_quiet (fail)
    go_wp2
    go_end0
    exact ⟨rfl, below_set b 5 _ _ _ _ hb⟩
  · go_enter Try.func38, Try.ntmps38
    go_wp2
    go_end0
    exact ⟨rfl, by go_grown⟩

theorem below_set3 {w w1 : World} (b off : Nat) (u : Value) (o1 o2 o3 : Obj) (hb : b < w.heap.size)
    (h : Below (w.heap.size + 1 + 1 + 1) ((((w.alloc o1).alloc o2).alloc o3).setCell ⟨b, off, none⟩ u) w1) : Below w.heap.size (w.setCell ⟨b, off, none⟩ u) w1 := by
  have hs : ∀ (W : World) (p : Addr) (v : Value), (W.setCell p v).heap.size = W.heap.size := fun W p v => by simp [World.setCell]
  have h2 := h.size
  rw [hs] at h2
  simp at h2
  refine ⟨h.os, h.tape, h.output, by rw [hs]; omega, fun k hk => ?_⟩
  rw [h.block k (by omega)]
  by_cases hkb : k = b
  · subst hkb
    simp only [World.setCell, Array.getElem?_modify, if_true]
    rw [Below.heap_alloc _ _ _ (by simp; omega), Below.heap_alloc _ _ _ (by simp; omega), Below.heap_alloc _ _ _ hb]
  · rw [Below.heap_setCell _ _ _ _ hkb, Below.heap_setCell _ _ _ _ hkb, Below.heap_alloc _ _ _ (by simp; omega), Below.heap_alloc _ _ _ (by simp; omega), Below.heap_alloc _ _ _ hk]

theorem mark53 (M c b : Nat) (l a : Int) (isAsync : Bool) (w : World) (hM : w.heap[M]? = some (.map #[] c))
    (x : Value) (hbc : w.cell? ⟨b, 4, none⟩ = some x) (hbf : w.frozen? ⟨b, 4, none⟩ = false) (hb : b < w.heap.size) (hMl : M < w.heap.size) :
    Calls Try.prog 34 #[.map (some M), .agg #[.iface 53 (.pointer (some ⟨b, 0, none⟩)), .int .i32 l], .agg #[.int .i32 a], .bool isAsync] w
      fun e w' => e = .returned (.tuple #[]) ∧ Below w.heap.size (w.setCell ⟨b, 4, none⟩ (.bool true)) w' := by
  have HM := Lib.hid hM
  clear hM
  go_enter Try.func34, Try.ntmps34
  go_wp2_with (first | refine wpList_build rfl 242 _ rfl #[(16, .map (some M))] (by simp [Act.eval]) _ (build242 _ _) ?_)
  refine (meth53 M c b _ l a isAsync _ ?_ ?_ x ?_ ?_ ?_ ?_ ?_).mono ?_
  · go_simp
  · exact (Below.block (B := w.heap.size) (w := w) (by go_grown) M hMl).trans HM.out
  · exact (Below.cell (B := w.heap.size) (w := w) (by go_grown) hb).trans hbc
  · exact (Below.frozen (B := w.heap.size) (w := w) (by go_grown) hb).trans hbf
  · simp
  · simp; omega
  · simp; omega
  rintro e w1 ⟨rfl, h1⟩
  go_wp2
  go_end0
  exact ⟨rfl, below_set3 b 4 _ _ _ _ hb (by simpa using h1)⟩

theorem mark57 (M c b : Nat) (l a : Int) (isAsync : Bool) (w : World) (hM : w.heap[M]? = some (.map #[] c))
    (x : Value) (hbc : w.cell? ⟨b, 4, none⟩ = some x) (hbf : w.frozen? ⟨b, 4, none⟩ = false) (hb : b < w.heap.size) (hMl : M < w.heap.size) :
    Calls Try.prog 34 #[.map (some M), .agg #[.iface 57 (.pointer (some ⟨b, 0, none⟩)), .int .i32 l], .agg #[.int .i32 a], .bool isAsync] w
      fun e w' => e = .returned (.tuple #[]) ∧ Below w.heap.size (w.setCell ⟨b, 4, none⟩ (.bool true)) w' := by
  have HM := Lib.hid hM
  clear hM
  go_enter Try.func34, Try.ntmps34
  go_wp2_with (first | refine wpList_build rfl 242 _ rfl #[(16, .map (some M))] (by simp [Act.eval]) _ (build242 _ _) ?_)
  refine (meth57 M c b _ l a isAsync _ ?_ ?_ x ?_ ?_ ?_ ?_ ?_).mono ?_
  · go_simp
  · exact (Below.block (B := w.heap.size) (w := w) (by go_grown) M hMl).trans HM.out
  · exact (Below.cell (B := w.heap.size) (w := w) (by go_grown) hb).trans hbc
  · exact (Below.frozen (B := w.heap.size) (w := w) (by go_grown) hb).trans hbf
  · simp
  · simp; omega
  · simp; omega
  rintro e w1 ⟨rfl, h1⟩
  go_wp2
  go_end0
  exact ⟨rfl, below_set3 b 4 _ _ _ _ hb (by simpa using h1)⟩

theorem mark75 (M c b : Nat) (l a : Int) (isAsync : Bool) (w : World) (hM : w.heap[M]? = some (.map #[] c))
    (x : Value) (hbc : w.cell? ⟨b, 14, none⟩ = some x) (hbf : w.frozen? ⟨b, 14, none⟩ = false) (hb : b < w.heap.size) (hMl : M < w.heap.size) :
    Calls Try.prog 34 #[.map (some M), .agg #[.iface 75 (.pointer (some ⟨b, 0, none⟩)), .int .i32 l], .agg #[.int .i32 a], .bool isAsync] w
      fun e w' => e = .returned (.tuple #[]) ∧ Below w.heap.size (w.setCell ⟨b, 14, none⟩ (.bool true)) w' := by
  have HM := Lib.hid hM
  clear hM
  go_enter Try.func34, Try.ntmps34
  go_wp2_with (first | refine wpList_build rfl 242 _ rfl #[(16, .map (some M))] (by simp [Act.eval]) _ (build242 _ _) ?_)
  refine (meth75 M c b _ l a isAsync _ ?_ ?_ x ?_ ?_ ?_ ?_ ?_).mono ?_
  · go_simp
  · exact (Below.block (B := w.heap.size) (w := w) (by go_grown) M hMl).trans HM.out
  · exact (Below.cell (B := w.heap.size) (w := w) (by go_grown) hb).trans hbc
  · exact (Below.frozen (B := w.heap.size) (w := w) (by go_grown) hb).trans hbf
  · simp
  · simp; omega
  · simp; omega
  rintro e w1 ⟨rfl, h1⟩
  go_wp2
  go_end0
  exact ⟨rfl, below_set3 b 14 _ _ _ _ hb (by simpa using h1)⟩

theorem mark87 (M c b : Nat) (l a : Int) (isAsync : Bool) (w : World) (hM : w.heap[M]? = some (.map #[] c))
    (x : Value) (hbc : w.cell? ⟨b, 7, none⟩ = some x) (hbf : w.frozen? ⟨b, 7, none⟩ = false) (hb : b < w.heap.size) (hMl : M < w.heap.size) :
    Calls Try.prog 34 #[.map (some M), .agg #[.iface 87 (.pointer (some ⟨b, 0, none⟩)), .int .i32 l], .agg #[.int .i32 a], .bool isAsync] w
      fun e w' => e = .returned (.tuple #[]) ∧ Below w.heap.size (w.setCell ⟨b, 7, none⟩ (.bool true)) w' := by
  have HM := Lib.hid hM
  clear hM
  go_enter Try.func34, Try.ntmps34
  go_wp2_with (first | refine wpList_build rfl 242 _ rfl #[(16, .map (some M))] (by simp [Act.eval]) _ (build242 _ _) ?_)
  refine (meth87 M c b _ l a isAsync _ ?_ ?_ x ?_ ?_ ?_ ?_ ?_).mono ?_
  · go_simp
  · exact (Below.block (B := w.heap.size) (w := w) (by go_grown) M hMl).trans HM.out
  · exact (Below.cell (B := w.heap.size) (w := w) (by go_grown) hb).trans hbc
  · exact (Below.frozen (B := w.heap.size) (w := w) (by go_grown) hb).trans hbf
  · simp
  · simp; omega
  · simp; omega
  rintro e w1 ⟨rfl, h1⟩
  go_wp2
  go_end0
  exact ⟨rfl, below_set3 b 7 _ _ _ _ hb (by simpa using h1)⟩

theorem mark61 (M c b : Nat) (l a : Int) (isAsync : Bool) (w : World) (hM : w.heap[M]? = some (.map #[] c))
    (x : Value) (hbc : w.cell? ⟨b, 5, none⟩ = some x) (hbf : w.frozen? ⟨b, 5, none⟩ = false) (hb : b < w.heap.size) (hMl : M < w.heap.size) :
    Calls Try.prog 34 #[.map (some M), .agg #[.iface 61 (.pointer (some ⟨b, 0, none⟩)), .int .i32 l], .agg #[.int .i32 a], .bool isAsync] w
      fun e w' => e = .returned (.tuple #[]) ∧ Below w.heap.size (w.setCell ⟨b, 5, none⟩ (.bool true)) w' := by
  have HM := Lib.hid hM
  clear hM
  go_enter Try.func34, Try.ntmps34
  go_wp2_with (first | refine wpList_build rfl 242 _ rfl #[(16, .map (some M))] (by simp [Act.eval]) _ (build242 _ _) ?_)
  refine (meth61 M c b _ l a isAsync _ ?_ ?_ x ?_ ?_ ?_ ?_ ?_).mono ?_
  · go_simp
  · exact (Below.block (B := w.heap.size) (w := w) (by go_grown) M hMl).trans HM.out
  · exact (Below.cell (B := w.heap.size) (w := w) (by go_grown) hb).trans hbc
  · exact (Below.frozen (B := w.heap.size) (w := w) (by go_grown) hb).trans hbf
  · simp
  · simp; omega
  · simp; omega
  rintro e w1 ⟨rfl, h1⟩
  go_wp2
  go_end0
  exact ⟨rfl, below_set3 b 5 _ _ _ _ hb (by simpa using h1)⟩

theorem methNone (T M c Bp : Nat) (v : Value) (l a : Int) (isAsync : Bool) (w : World) (hp : w.cell? ⟨Bp, 113, none⟩ = some (.map (some M))) (hM : w.heap[M]? = some (.map #[] c))
    (h1 : ¬ T = 53) (h2 : ¬ T = 57) (h3 : ¬ T = 75) (h4 : ¬ T = 87) (h5 : ¬ T = 61) (hBp : Bp < w.heap.size) (hMl : M < w.heap.size) :
    Calls Try.prog 38 #[.pointer (some ⟨Bp, 0, none⟩), .agg #[.iface T v, .int .i32 l], .agg #[.int .i32 a], .bool isAsync] w
      fun e w' => e = .returned (.tuple #[]) ∧ Below w.heap.size w w' := by
  cases isAsync
  · have hlk2 := fun n => look_empty M c a (((w.alloc (.cells #[.iface T v, .int .i32 l] 64)).alloc (.cells #[.int .i32 a] 49)).drewN n) (by
      show (((w.alloc _).alloc _)).heap[M]? = _
      rw [Below.heap_alloc _ _ _ (by simp; omega), Below.heap_alloc _ _ _ hMl, hM])
    clear hM
    go_enter Try.func38, Try.ntmps38
    go_wp2
    go_quiet (fail)
    go_wp2
    go_end0
    exact ⟨rfl, below_drewN (by go_grown) _⟩
  · go_enter Try.func38, Try.ntmps38
    go_wp2
    go_end0
    exact ⟨rfl, by go_grown⟩

theorem markNone (T M c : Nat) (v : Value) (l a : Int) (isAsync : Bool) (w : World) (hM : w.heap[M]? = some (.map #[] c))
    (h1 : ¬ T = 53) (h2 : ¬ T = 57) (h3 : ¬ T = 75) (h4 : ¬ T = 87) (h5 : ¬ T = 61) (hMl : M < w.heap.size) :
    Calls Try.prog 34 #[.map (some M), .agg #[.iface T v, .int .i32 l], .agg #[.int .i32 a], .bool isAsync] w
      fun e w' => e = .returned (.tuple #[]) ∧ Below w.heap.size w w' := by
  have HM := Lib.hid hM
  clear hM
  go_enter Try.func34, Try.ntmps34
  go_wp2_with (first | refine wpList_build rfl 242 _ rfl #[(16, .map (some M))] (by simp [Act.eval]) _ (build242 _ _) ?_)
  refine (methNone T M c _ v l a isAsync _ ?_ ?_ h1 h2 h3 h4 h5 ?_ ?_).mono ?_
  · go_simp
  · exact (Below.block (B := w.heap.size) (w := w) (by go_grown) M hMl).trans HM.out
  · simp
  · simp; omega
  rintro e w1 ⟨rfl, h1⟩
  go_wp2
  go_end0
  exact ⟨rfl, Below.trans (by go_grown) (h1.mono (by simp; omega))⟩

/-- The number of entries of an empty map. -/
theorem len_empty (M c : Nat) (w : World) (h : w.heap[M]? = some (.map #[] c)) : (Builtin.len_ #[52] 3 #[.map (some M)]).run Try.prog w = .ok (.int .i64 0) w := by
  simp [Builtin.len_, run_underlying Try.underlying52, MapKept.run_getObj_map h, goInt, Result.andThen]

end Go.Proofs.Ytgefhkjidldjlac.fnMarkExprAsParenthesizedFlagIsShallow
