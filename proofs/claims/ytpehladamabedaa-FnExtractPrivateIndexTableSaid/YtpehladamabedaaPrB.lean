import Derived.Test.YtpehladamabedaaKit
import Derived.Test.YtpehladamabedaaPrA
namespace Go.Proofs.Ytpehladamabedaa.fnExtractPrivateIndexTable
open Go.ChangeShapes Go.WideShapes Go.ChangeAt Go.RowKit
set_option linter.unusedVariables false
set_option maxRecDepth 100000
set_option maxHeartbeats 2000000

theorem mkStr (l : Int) (w : World) : Calls Try.prog 16 #[.int .i32 l, .string ⟨#[120]⟩] w fun e w' => ∃ b, e = .returned (.agg #[.iface 106 (.pointer (some ⟨b, 0, none⟩)), .int .i32 l]) ∧ Below w.heap.size w w' := by
  go_enter Try.func16, Try.ntmps16
  go_wp2_with fail
  refine (utf16x _).mono ?_
  rintro e w1 ⟨a, n, c, rfl, h1⟩
  have r1 : RowAt w1 w.heap.size #[.nilIface, .int .i32 0] 35 := (RowAt.new w _ _).below h1 (by go_size)
  have c0 := r1.cellv (j := 0) (v := .nilIface) rfl
  have c1 := r1.cellv (j := 1) (v := .int .i32 0) rfl
  have f0 := r1.frozen 0
  have f1 := r1.frozen 1
  have B1 : Below w.heap.size w w1 := Below.trans (by go_grown) (h1.mono (by go_size))
  have hlt := r1.lt
  have hsz := B1.size
  have HR := Lib.hid r1
  clear h1 r1
  go_wp2_with fail
  have r4 := ((HR.out.set 0 (.iface 106 (.pointer (some ⟨w1.heap.size, 0, none⟩)))).set 1 (.int .i32 l)).alloc (.cells #[.slice a n c, .int .i32 0, .bool false, .bool false, .bool false] 110)
  have e0 := r4.cellv (j := 0) (v := .iface 106 (.pointer (some ⟨w1.heap.size, 0, none⟩))) (by simp)
  have e1 := r4.cellv (j := 1) (v := .int .i32 l) (by simp)
  exact bodyPost_ret (v := .agg #[.iface 106 (.pointer (some ⟨w1.heap.size, 0, none⟩)), .int .i32 l]) (by simp [results, Try.results16, go_sem, e0, e1]) rfl ⟨_, rfl, by go_grown⟩

/-- The feature of a kind. -/
def feat (k : Int) : Int := if k = 8 then 1024 else if k = 9 then 2048 else if k = 10 ∨ k = 11 ∨ k = 12 then 256 else if k = 13 then 8192 else if k = 14 then 16384 else if k = 15 ∨ k = 16 ∨ k = 17 then 4096 else 0

/-- The kind of a selector. -/
def kindOf (s : Int) : Int := if 0 ≤ s ∧ s ≤ 9 then s + 8 else 27

theorem kind51 (s : Int) (w : World) (h0 : 0 ≤ s) (h1 : s ≤ 10) : Calls Try.prog 51 #[.int .u8 s] w fun e w' => e = .returned (.int .u8 (kindOf s)) ∧ w = w' := by
  have h : s = 0 ∨ s = 1 ∨ s = 2 ∨ s = 3 ∨ s = 4 ∨ s = 5 ∨ s = 6 ∨ s = 7 ∨ s = 8 ∨ s = 9 ∨ s = 10 := by omega
  rcases h with rfl | rfl | rfl | rfl | rfl | rfl | rfl | rfl | rfl | rfl | rfl
  all_goals
    go_enter Try.func51, Try.ntmps51
    go_wp2
    go_ret
    exact ⟨rfl, rfl⟩

theorem feat72 (s : Int) (w : World) (h0 : 0 ≤ s) (h1 : s ≤ 10) : Calls Try.prog 72 #[.int .u8 (kindOf s)] w fun e w' => e = .returned (.int .u64 (feat (kindOf s))) ∧ w = w' := by
  have h : s = 0 ∨ s = 1 ∨ s = 2 ∨ s = 3 ∨ s = 4 ∨ s = 5 ∨ s = 6 ∨ s = 7 ∨ s = 8 ∨ s = 9 ∨ s = 10 := by omega
  rcases h with rfl | rfl | rfl | rfl | rfl | rfl | rfl | rfl | rfl | rfl | rfl
  all_goals
    simp only [kindOf, feat]
    go_enter Try.func72, Try.ntmps72
    go_wp2
    go_ret
    exact ⟨rfl, rfl⟩

theorem has71 (s : Int) (w : World) (h0 : 0 ≤ s) (h1 : s ≤ 10) : Calls Try.prog 71 #[.int .u64 0, .int .u64 (feat (kindOf s))] w fun e w' => e = .returned (.bool false) ∧ w = w' := by
  have h : s = 0 ∨ s = 1 ∨ s = 2 ∨ s = 3 ∨ s = 4 ∨ s = 5 ∨ s = 6 ∨ s = 7 ∨ s = 8 ∨ s = 9 ∨ s = 10 := by omega
  rcases h with rfl | rfl | rfl | rfl | rfl | rfl | rfl | rfl | rfl | rfl | rfl
  all_goals
    simp only [kindOf, feat]
    go_enter Try.func71, Try.ntmps71
    go_wp2
    go_ret
    exact ⟨rfl, rfl⟩

theorem has73 (m : Bool) (w : World) : Calls Try.prog 73 #[.int .u16 (if m then 8 else 0), .int .u16 8] w fun e w' => e = .returned (.bool m) ∧ w = w' := by
  cases m
  all_goals
    go_enter Try.func73, Try.ntmps73
    go_wp2
    go_ret
    exact ⟨rfl, rfl⟩

/-- What the test reads: the parser's symbols, its unsupported features (none), the first symbol's kind and flags. -/
def Pars (w : World) (p : Nat) (s : Int) (m : Bool) : Prop :=
  ∃ R, w.cell? ⟨p, 106, none⟩ = some (.slice (some ⟨R, 0, none⟩) 9 9) ∧ w.cell? ⟨p, 23, none⟩ = some (.int .u64 0) ∧ w.cell? ⟨R, 7, none⟩ = some (.int .u16 (if m then 8 else 0)) ∧ w.cell? ⟨R, 8, none⟩ = some (.int .u8 (kindOf s))

theorem Pars.later {w w' : World} {p : Nat} {s : Int} {m : Bool} (h : Pars w p s m) (hb : Below w.heap.size w w') : Pars w' p s m := by
  obtain ⟨R, h1, h2, h3, h4⟩ := h
  exact ⟨R, Ytpehladamabedaa.later h1 hb, Ytpehladamabedaa.later h2 hb, Ytpehladamabedaa.later h3 hb, Ytpehladamabedaa.later h4 hb⟩

/-- A call that leaves every world as it is, in a region behind another one that draws. -/
theorem quiet2 {P : Program} {f : FuncId} {args : Array Value} {w : World} {a n : Nat} {v : Value} (h : ∀ W, Calls P f args W fun e w' => e = .returned v ∧ W = w') :
    Calls P f args (w.drewN (a + n)) fun e w'' => e = .returned v ∧ ∃ m, w'' = w.drewN (a + m) := (h _).mono fun _ _ ⟨he, hm⟩ => ⟨he, n, hm.symm⟩

theorem needs (p q : Nat) (s : Int) (m : Bool) (w : World) (h0 : 0 ≤ s) (h1 : s ≤ 10) (h : Pars w p s m) (hq : w.cell? ⟨q, 1, none⟩ = some (.int .u32 0)) :
    Calls Try.prog 63 #[.pointer (some ⟨p, 0, none⟩), .pointer (some ⟨q, 0, none⟩)] w fun e w' => e = .returned (.bool m) ∧ ∃ n, w' = w.drewN n := by
  obtain ⟨R, c1, c2, c3, c4⟩ := h
  obtain ⟨K, hK⟩ : ∃ K, kindOf s = K := ⟨_, rfl⟩
  obtain ⟨G, hG⟩ : ∃ G, (if m then (8 : Int) else 0) = G := ⟨_, rfl⟩
  have k1 := fun W => feat72 s W h0 h1
  have k2 := fun W => has71 s W h0 h1
  have k3 := fun W => has73 m W
  rw [hK] at c4 k1 k2
  rw [hG] at c3 k3
  obtain ⟨Z, hZ⟩ : ∃ Z, feat K = Z := ⟨_, rfl⟩
  rw [hZ] at k1 k2
  have K1 := Lib.hid k1
  have K2 := Lib.hid k2
  have K3 := Lib.hid k3
  clear hK hG hZ k1 k2 k3
  go_enter Try.func63, Try.ntmps63
  go_wp2_with fail
  go_quiet (fail)
  go_wp2_with fail
  go_quiet (first | (go_at_call 72; exact quiet2 K1.out) | (go_at_call 71; exact quiet2 K2.out) | (go_at_call 73; exact quiet2 K3.out))
  go_wp2_with fail
  go_ret
  exact ⟨rfl, _, World.drewN_drewN _ _ _⟩

end Go.Proofs.Ytpehladamabedaa.fnExtractPrivateIndexTable
