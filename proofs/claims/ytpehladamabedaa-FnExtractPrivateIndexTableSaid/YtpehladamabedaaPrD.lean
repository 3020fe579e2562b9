import Derived.Test.YtpehladamabedaaKit
import Derived.Test.YtpehladamabedaaPrC
namespace Go.Proofs.Ytpehladamabedaa.fnExtractPrivateIndexTable
open Go.ChangeShapes Go.WideShapes Go.ChangeAt Go.RowKit
set_option linter.unusedVariables false
set_option maxRecDepth 100000
set_option maxHeartbeats 2000000

theorem RowAt.newAt {W : World} {b : Nat} {cs : Array Value} {t : TypeId} (hb : b = W.heap.size) : RowAt (W.alloc (.cells cs t)) b cs t := by
  subst hb
  exact RowAt.new _ _ _

theorem needs' (p q : Nat) (s : Int) (m : Bool) (w : World) (h0 : 0 ≤ s) (h1 : s ≤ 10) (h : Pars w p s m) (hq : w.cell? ⟨q, 1, none⟩ = some (.int .u32 0)) :
    Calls Try.prog 63 #[.pointer (some ⟨p, 0, none⟩), .pointer (some ⟨q, 0, none⟩)] w fun e w' => e = .returned (.bool m) ∧ Below w.heap.size w w' :=
  (needs p q s m w h0 h1 h hq).mono fun e w' ⟨he, n, hn⟩ => ⟨he, by subst hn; exact ⟨rfl, rfl, rfl, Nat.le_refl _, fun _ _ => rfl⟩⟩

theorem ext_yes (p i q : Nat) (T1 : TypeId) (v1 : Value) (l l1 l2 s : Int) (w : World) (h0 : 0 ≤ s) (h1 : s ≤ 10) (h : Pars w p s true)
    (c0 : w.cell? ⟨i, 0, none⟩ = some (.iface T1 v1)) (c1 : w.cell? ⟨i, 1, none⟩ = some (.int .i32 l1)) (c2 : w.cell? ⟨i, 2, none⟩ = some (.iface 40 (.pointer (some ⟨q, 0, none⟩)))) (c3 : w.cell? ⟨i, 3, none⟩ = some (.int .i32 l2))
    (hq : w.cell? ⟨q, 1, none⟩ = some (.int .u32 0)) :
    Calls Try.prog 54 #[.pointer (some ⟨p, 0, none⟩), .agg #[.iface 102 (.pointer (some ⟨i, 0, none⟩)), .int .i32 l]] w fun e w' => e = .returned (.tuple #[.agg #[.iface T1 v1, .int .i32 l1], .agg #[.int .i32 l2], .pointer (some ⟨q, 0, none⟩)]) ∧ Below w.heap.size w w' := by
  have H := Lib.hid h
  have zi : i < w.heap.size := cell_lt c0
  have zq : q < w.heap.size := cell_lt hq
  clear h
  have g2 : ∀ A B C : Obj, (((w.alloc A).alloc B).alloc C).cell? ⟨i, 2, none⟩ = some (.iface 40 (.pointer (some ⟨q, 0, none⟩))) := fun A B C => later c2 (by go_grown)
  have g3 : ∀ A B C : Obj, (((w.alloc A).alloc B).alloc C).cell? ⟨q, 1, none⟩ = some (.int .u32 0) := fun A B C => later hq (by go_grown)
  go_enter Try.func54, Try.ntmps54
  go_wp2_with fail
  refine (needs' p q s true _ h0 h1 (H.out.later (by go_grown)) (g3 _ _ _)).mono ?_
  rintro e wz ⟨rfl, hb⟩
  have hs := hb.size
  simp only [World.size_alloc] at hs
  have B : Below w.heap.size w wz := Below.trans (by go_grown) (hb.mono (by go_size))
  have d0 := later c0 B
  have d1 := later c1 B
  have d2 := later c2 B
  have d3 := later c3 B
  have r4 : RowAt wz (w.heap.size + 1) #[.nilIface, .int .i32 0] 35 := ((RowAt.newAt (by go_size)).alloc _).below hb (by go_size)
  have r5 : RowAt wz (w.heap.size + 1 + 1) #[.int .i32 0] 33 := (RowAt.newAt (by go_size)).below hb (by go_size)
  have e40 := r4.cellv (j := 0) (v := .nilIface) rfl
  have e41 := r4.cellv (j := 1) (v := .int .i32 0) rfl
  have e50 := r5.cellv (j := 0) (v := .int .i32 0) rfl
  have f40 := r4.frozen 0
  have f41 := r4.frozen 1
  have f50 := r5.frozen 0
  clear r4 r5 hb c0 c1 c2 c3 hq H g2 g3
  go_wp2_with fail
  go_region
  all_goals
    go_wp2_with fail
    exact bodyPost_ret (v := .tuple #[.agg #[.iface T1 v1, .int .i32 l1], .agg #[.int .i32 l2], .pointer (some ⟨q, 0, none⟩)]) (by simp [results, Try.results54, go_sem, e40, e41, e50]) rfl ⟨rfl, by go_grown⟩

def noV : Value := .tuple #[.agg #[.nilIface, .int .i32 0], .agg #[.int .i32 0], .pointer none]

theorem ext_no (p i q : Nat) (l s : Int) (w : World) (h0 : 0 ≤ s) (h1 : s ≤ 10) (h : Pars w p s false)
    (c2 : w.cell? ⟨i, 2, none⟩ = some (.iface 40 (.pointer (some ⟨q, 0, none⟩)))) (hq : w.cell? ⟨q, 1, none⟩ = some (.int .u32 0)) :
    Calls Try.prog 54 #[.pointer (some ⟨p, 0, none⟩), .agg #[.iface 102 (.pointer (some ⟨i, 0, none⟩)), .int .i32 l]] w fun e w' => e = .returned noV ∧ Below w.heap.size w w' := by
  have H := Lib.hid h
  clear h
  have g2 : ∀ A B C : Obj, (((w.alloc A).alloc B).alloc C).cell? ⟨i, 2, none⟩ = some (.iface 40 (.pointer (some ⟨q, 0, none⟩))) := fun A B C => later c2 (by go_grown)
  have g3 : ∀ A B C : Obj, (((w.alloc A).alloc B).alloc C).cell? ⟨q, 1, none⟩ = some (.int .u32 0) := fun A B C => later hq (by go_grown)
  go_enter Try.func54, Try.ntmps54
  go_wp2_with fail
  refine (needs' p q s false _ h0 h1 (H.out.later (by go_grown)) (g3 _ _ _)).mono ?_
  rintro e wz ⟨rfl, hb⟩
  have hs := hb.size
  simp only [World.size_alloc] at hs
  have B : Below w.heap.size w wz := Below.trans (by go_grown) (hb.mono (by go_size))
  have r4 : RowAt wz (w.heap.size + 1) #[.nilIface, .int .i32 0] 35 := ((RowAt.newAt (by go_size)).alloc _).below hb (by go_size)
  have r5 : RowAt wz (w.heap.size + 1 + 1) #[.int .i32 0] 33 := (RowAt.newAt (by go_size)).below hb (by go_size)
  have e40 := r4.cellv (j := 0) (v := .nilIface) rfl
  have e41 := r4.cellv (j := 1) (v := .int .i32 0) rfl
  have e50 := r5.cellv (j := 0) (v := .int .i32 0) rfl
  have f40 := r4.frozen 0
  have f41 := r4.frozen 1
  have f50 := r5.frozen 0
  clear r4 r5 hb c2 hq H g2 g3
  go_wp2_with fail
  exact bodyPost_ret (v := noV) (by simp [noV, results, Try.results54, go_sem, e40, e41, e50]) rfl ⟨rfl, by go_grown⟩

theorem ext_str (p i : Nat) (v : Value) (l : Int) (w : World) (c2 : w.cell? ⟨i, 2, none⟩ = some (.iface 106 v)) :
    Calls Try.prog 54 #[.pointer (some ⟨p, 0, none⟩), .agg #[.iface 102 (.pointer (some ⟨i, 0, none⟩)), .int .i32 l]] w fun e w' => e = .returned noV ∧ Below w.heap.size w w' := by
  have g2 : ∀ A B C : Obj, (((w.alloc A).alloc B).alloc C).cell? ⟨i, 2, none⟩ = some (.iface 106 v) := fun A B C => later c2 (by go_grown)
  go_enter Try.func54, Try.ntmps54
  go_wp2_with fail
  exact bodyPost_ret (v := noV) (by simp [noV, results, Try.results54, go_sem]) rfl ⟨rfl, by go_grown⟩

theorem ext_dot (p : Nat) (v : Value) (l : Int) (w : World) :
    Calls Try.prog 54 #[.pointer (some ⟨p, 0, none⟩), .agg #[.iface 111 v, .int .i32 l]] w fun e w' => e = .returned noV ∧ Below w.heap.size w w' := by
  go_enter Try.func54, Try.ntmps54
  go_wp2_with fail
  exact bodyPost_ret (v := noV) (by simp [noV, results, Try.results54, go_sem]) rfl ⟨rfl, by go_grown⟩

/-- The law's own name for it. -/
theorem ext18 (p : Nat) (T : TypeId) (v d : Value) (l a b : Int) (c : Option Addr) (w : World) (hd : d.oneCell' = true)
    (hc : ∀ W, Below w.heap.size w W → Calls Try.prog 54 #[.pointer (some ⟨p, 0, none⟩), .agg #[.iface T v, .int .i32 l]] W fun e w' => e = .returned (.tuple #[.agg #[d, .int .i32 a], .agg #[.int .i32 b], .pointer c]) ∧ Below W.heap.size W w') :
    Calls Try.prog 18 #[.pointer (some ⟨p, 0, none⟩), .agg #[.iface T v, .int .i32 l]] w fun e w' => e = .returned (.tuple #[.agg #[d, .int .i32 a], .agg #[.int .i32 b], .pointer c]) ∧ Below w.heap.size w w' := by
  have H := Lib.hid hc
  clear hc
  go_enter Try.func18, Try.ntmps18
  go_wp2_with fail
  refine (H.out _ (by go_grown)).mono ?_
  rintro e wz ⟨rfl, hb⟩
  have hs := hb.size
  simp only [World.size_alloc] at hs
  have B : Below w.heap.size w wz := Below.trans (by go_grown) (hb.mono (by go_size))
  have r4 : RowAt wz (w.heap.size + 1) #[.nilIface, .int .i32 0] 35 := ((RowAt.newAt (by go_size)).alloc _).below hb (by go_size)
  have r5 : RowAt wz (w.heap.size + 1 + 1) #[.int .i32 0] 33 := (RowAt.newAt (by go_size)).below hb (by go_size)
  have e40 := r4.cellv (j := 0) (v := .nilIface) rfl
  have e41 := r4.cellv (j := 1) (v := .int .i32 0) rfl
  have e50 := r5.cellv (j := 0) (v := .int .i32 0) rfl
  have f40 := r4.frozen 0
  have f41 := r4.frozen 1
  have f50 := r5.frozen 0
  have hst := fun (A : Addr) (W : World) (m : Mode) => run_store Try.prog W A d m hd
  clear r4 r5 hb H hd
  go_wp2_with fail
  exact bodyPost_ret (v := .tuple #[.agg #[d, .int .i32 a], .agg #[.int .i32 b], .pointer c]) (by simp [results, Try.results18, go_sem, e40, e41, e50]) rfl ⟨rfl, by go_grown⟩

theorem readId (t : Nat) (l x y : Int) (w : World) (c0 : w.cell? ⟨t, 0, none⟩ = some (.int .u32 x)) (c1 : w.cell? ⟨t, 1, none⟩ = some (.int .u32 y)) :
    Calls Try.prog 55 #[.agg #[.iface 97 (.pointer (some ⟨t, 0, none⟩)), .int .i32 l]] w fun e w' => e = .returned (.tuple #[.agg #[.int .u32 x, .int .u32 y], .bool true]) ∧ Below w.heap.size w w' := by
  have g0 : ∀ A B : Obj, ((w.alloc A).alloc B).cell? ⟨t, 0, none⟩ = some (.int .u32 x) := fun A B => later c0 (by go_grown)
  have g1 : ∀ A B : Obj, ((w.alloc A).alloc B).cell? ⟨t, 1, none⟩ = some (.int .u32 y) := fun A B => later c1 (by go_grown)
  go_enter Try.func55, Try.ntmps55
  go_wp2_with fail
  exact bodyPost_ret (v := .tuple #[.agg #[.int .u32 x, .int .u32 y], .bool true]) (by simp [results, Try.results55, go_sem]) rfl ⟨rfl, by go_grown⟩

theorem identAt (t : Nat) (l : Int) (w : World) (c0 : w.cell? ⟨t, 0, none⟩ = some (.int .u32 0)) (c1 : w.cell? ⟨t, 1, none⟩ = some (.int .u32 3)) :
    Calls Try.prog 19 #[.agg #[.iface 97 (.pointer (some ⟨t, 0, none⟩)), .int .i32 l], .int .i32 l, .int .u32 3] w fun e w' => e = .returned (.bool true) ∧ Below w.heap.size w w' := by
  have H0 := Lib.hid c0
  have H1 := Lib.hid c1
  clear c0 c1
  go_enter Try.func19, Try.ntmps19
  go_wp2_with fail
  refine (readId t l 0 3 _ (later H0.out (by go_grown)) (later H1.out (by go_grown))).mono ?_
  rintro e w1 ⟨rfl, hb⟩
  have hs := hb.size
  simp only [World.size_alloc] at hs
  have B : Below w.heap.size w w1 := Below.trans (by go_grown) (hb.mono (by go_size))
  have r3 : RowAt w1 w.heap.size #[.iface 97 (.pointer (some ⟨t, 0, none⟩)), .int .i32 l] 35 := (RowAt.new _ _ _).below hb (by go_size)
  have e1 := r3.cellv (j := 1) (v := .int .i32 l) rfl
  clear hb H0 H1
  have hlt : w.heap.size < w1.heap.size := by omega
  go_wp2_with fail
  have r7 : RowAt (w1.alloc (.cells #[.int .u32 0, .int .u32 3] 38)) w1.heap.size #[.int .u32 0, .int .u32 3] 38 := RowAt.new _ _ _
  have r3' := r3.alloc (.cells #[.int .u32 0, .int .u32 3] 38)
  have B' : Below w.heap.size w (w1.alloc (.cells #[.int .u32 0, .int .u32 3] 38)) := by go_grown
  have hs' : (w1.alloc (.cells #[.int .u32 0, .int .u32 3] 38)).heap.size = w1.heap.size + 1 := by simp
  clear r3 e1 B
  generalize hW : w1.alloc (.cells #[.int .u32 0, .int .u32 3] 38) = W at r7 r3' B' hs' ⊢
  clear hW
  have e1 := r3'.cellv (j := 1) (v := .int .i32 l) rfl
  have e70 := r7.cellv (j := 0) (v := .int .u32 0) rfl
  have e71 := r7.cellv (j := 1) (v := .int .u32 3) rfl
  clear r3' r7
  go_region_with (go_at_call 13; refine (mkRef _ _).mono ?_; rintro e w2 ⟨rfl, h2⟩; have k1 := later (w := W.drew) e1 h2; have k70 := later (w := W.drew) e70 h2; have k71 := later (w := W.drew) e71 h2; have hs2 := h2.size; have B2 : Below w.heap.size w w2 := Below.trans B'.drew (h2.mono B'.size))
  all_goals
    go_wp2_with fail
    go_ret
    exact ⟨rfl, B2⟩

end Go.Proofs.Ytpehladamabedaa.fnExtractPrivateIndexTable
