import Derived.Test.YtidicogmfpfibacFmtKit
import Derived.Test.YtidicogmfpfibacFmtLnH
namespace Go.Proofs.YtidicogmfpfibacFmt
open Go.ChangeShapes Go.WideShapes Go.ChangeAt Go.RowKit
set_option linter.unusedVariables false
set_option maxRecDepth 100000
set_option maxHeartbeats 2000000

open Go.MuLone Go.Extern.Stop Go.Stop Go.Extern
noncomputable def rg9_3 : List Oper := rgAt Tryf.f9 3
theorem sel9_3 : Region.noSelect rg9_3.toArray = true := by kernel_rfl
def L9 (l : List Nat) : Array Bool := ((List.range 34).map fun i => !(l.contains i)).toArray
def Vs9 (p k mu he ms : Nat) (tk : Int) (x y : ByteArray) (u10 u11 u12 : Value) (g28 g42 g45 : Nat) (t29 t43 : ByteArray) : List Value := [.pointer (some ⟨p, 0, none⟩), .string x, undef, undef, .string y, .pointer (some ⟨p, 0, none⟩), .pointer (some ⟨p, 0, none⟩), .pointer (some ⟨p, 201, none⟩), .pointer (some ⟨p, 270, none⟩), .int .u8 tk, u10, u11, u12, .pointer (some ⟨p, 0, none⟩), .pointer (some ⟨p, 0, none⟩), .pointer (some ⟨p, 51, none⟩), .agg (logV k mu he ms), .pointer (some ⟨p, 0, none⟩), .pointer (some ⟨p, 0, none⟩), .pointer (some ⟨p, 67, none⟩), .pointer (some ⟨p, 0, none⟩), .pointer (some ⟨p, 0, none⟩), .pointer (some ⟨p, 201, none⟩), .agg #[.int .i32 0, .int .i32 0], .string x, .iface 9 (.string x), .string y, .iface 9 (.string y), .slice (some ⟨g28, 0, none⟩) 2 2, .string t29, .string y, .iface 9 (.string y), .string x, .iface 9 (.string x), .string y, .iface 9 (.string y), .string x, .iface 9 (.string x), .string y, .iface 9 (.string y), .string x, .iface 9 (.string x), .slice (some ⟨g42, 0, none⟩) 6 6, .string t43, .agg #[.nilIface, .pointer none, .string t43, .bool false], .slice (some ⟨g45, 0, none⟩) 1 1, .tuple #[]]
def Fr9 (p k mu he ms : Nat) (tk : Int) (x y : ByteArray) (u10 u11 u12 : Value) (g28 g42 g45 : Nat) (t29 t43 : ByteArray) (l : List Nat) : Act := ⟨((Vs9 p k mu he ms tk x y u10 u11 u12 g28 g42 g45 t29 t43).zipIdx.map fun z => if l.contains z.2 then undef else z.1).toArray, []⟩
section
variable {P : Program} {Q : Exit → Act → World → Prop} {S : World → Prop} {w : World}
theorem held_at9 {fuel : Nat} {a a' : Act} {l : List Oper} {L L' : Array Bool} (i : Nat) {d : Option Nat} {v : Value} (ho : l.toArray[i]? = some (l.getD i noOper)) (hd : (l.getD i noOper).dst = d) (hsel : Region.noSelect l.toArray = true) (hf : Region.free .any l.toArray L i = true) (hr : (Region.ready .any l.toArray L).contains i = true)
    (hQ : ∀ c a w, Q (.panic c) (a.put d v) w → Q (.panic c) a w) (hw : Region.wanted (l.getD i noOper) (yielded l.toArray a.tmps) = true)
    (hrun : ∀ w, S w → (execOp a.eval (l.getD i noOper)).run P w = .ok (.value v) w) (hS : S w) (ha : a.put d v = a') (hL : L.setIfInBounds i true = L') (h : wpAnyH P .any l.toArray Q S fuel L' a' w) : wpAnyH P .any l.toArray Q S (fuel + 1) L a w := by
  subst hL
  exact held_at i ho hd hsel hf hr hQ hw hrun hS ha h
theorem held_of9 {fuel : Nat} {a : Act} {l : List Oper} {L : Array Bool} (rs : List Nat) (hr : Region.ready .any l.toArray L = rs) (hne : rs ≠ []) (h : ∀ i ∈ rs, wpOp P l.toArray Q i (fun a' w' => S w' ∧ wpAnyH P .any l.toArray Q S fuel (L.setIfInBounds i true) a' w') a w) : wpAnyH P .any l.toArray Q S (fuel + 1) L a w :=
  wpAnyH_all hr hne h
theorem op9 {fuel : Nat} {a : Act} {l : List Oper} {L L' : Array Bool} (i : Nat) (ho : l.toArray[i]? = some (l.getD i noOper)) (hw : Region.wanted (l.getD i noOper) (yielded l.toArray a.tmps) = true) (hL : L.setIfInBounds i true = L')
    (h : (l.getD i noOper).wp P a w (fun a' w' => S w' ∧ wpAnyH P .any l.toArray Q S fuel L' a' w') Q) : wpOp P l.toArray Q i (fun a' w' => S w' ∧ wpAnyH P .any l.toArray Q S fuel (L.setIfInBounds i true) a' w') a w := by
  subst hL
  exact held_op ho hw h
theorem run_callF {a : Act} {o : Oper} {c : Call} {d : Deferred} {f : FuncId} {args : Array Value} {w' : World} {v : Value} (ho : o.op = .call c) (hr : (resolve a.eval c o.type).run P w = .ok d w) (hi : invoke d.target d.args = callFunc f args) (h : (callFunc f args).run P w = .ok (.value v) w') : (execOp a.eval o).run P w = .ok (.value v) w' := by
  unfold execOp
  rw [ho]
  simp only [Sem.run_bind, hr, Result.andThen_ok, hi, h]
end
def S9 (p k mu he ms : Nat) (cs : Array Value) (W : World) : Prop := RowAt W p cs 165 ∧ (cs.toList.drop 51).take (logV k mu he ms).toList.length = (logV k mu he ms).toList
theorem S9.below {p k mu he ms : Nat} {cs : Array Value} {W W' : World} (h : S9 p k mu he ms cs W) (hb : Below W.heap.size W W') : S9 p k mu he ms cs W' := ⟨h.1.below hb h.1.lt, h.2⟩
def r28 (x y : ByteArray) : Array Value := #[.iface 9 (.string x), .iface 9 (.string y)]
def r42 (x y : ByteArray) : Array Value := #[.iface 9 (.string y), .iface 9 (.string x), .iface 9 (.string y), .iface 9 (.string x), .iface 9 (.string y), .iface 9 (.string x)]
/-- What the region needs of its beginning, and of what follows it. -/
structure Ctx9 (F : Interp) (Q : Exit → Act → World → Prop) (p k mu he ms : Nat) (tk : Int) (x y : ByteArray) (u10 u11 u12 : Value) (cs : Array Value) (B : Nat) (v : Value) (n : Nat) (xs : List Value) (W0 : World) : Prop where
  hQ : ∀ c a d v w, Q (.panic c) (a.put d v) w → Q (.panic c) a w
  hF : F.answers W0.tape
  H : LG B k mu he ms 0 v n xs W0
  hn : n ≤ 100000
  hS : S9 p k mu he ms cs W0
  c76 : cs[76]? = some (.bool false)
  c254 : cs[254]? = some (.int .i64 0)
  c255 : cs[255]? = some (.int .i64 0)
  hend : ∀ g28 g42 g45 t29 t43 W', Added B k mu he ms 0 n (xs ++ msgV (.slice (some ⟨g45, 0, none⟩) 1 1) (.pointer none) t29) W0 (.returned (.tuple #[])) W' → Q .normal (Fr9 p k mu he ms tk x y u10 u11 u12 g28 g42 g45 t29 t43 []) W'
theorem Ctx9.at {F : Interp} {Q : Exit → Act → World → Prop} {p k mu he ms : Nat} {tk : Int} {x y : ByteArray} {u10 u11 u12 : Value} {cs : Array Value} {B : Nat} {v : Value} {n : Nat} {xs : List Value} {W0 W : World} (C : Ctx9 F Q p k mu he ms tk x y u10 u11 u12 cs B v n xs W0) (bl : Below W0.heap.size W0 W) : S9 p k mu he ms cs W ∧ F.answers W.tape :=
  ⟨C.hS.below bl, bl.tape ▸ C.hF⟩
set_option maxHeartbeats 4000000 in
theorem tail9 {F : Interp} {Q : Exit → Act → World → Prop} {p k mu he ms : Nat} {tk : Int} {x y : ByteArray} {u10 u11 u12 : Value} {cs : Array Value} {B : Nat} {v : Value} {n : Nat} {xs : List Value} {W0 : World} (C : Ctx9 F Q p k mu he ms tk x y u10 u11 u12 cs B v n xs W0) (g28 g42 : Nat) (t29 : ByteArray) (W : World) (bl : Below W0.heap.size W0 W) (h42 : RowAt W g42 (r42 x y) 20) : wpAnyH Tryf.prog .any rg9_3.toArray Q (S9 p k mu he ms cs) 4 (L9 [30, 31, 32, 33]) (Fr9 p k mu he ms tk x y u10 u11 u12 g28 g42 0 t29 ⟨#[]⟩ [43, 44, 45, 46]) W := by
  have hA := C.at bl
  obtain ⟨t43, ht⟩ := spB F g42 x y W hA.2 (h42.cellv (j := 0) rfl) (h42.cellv (j := 1) rfl) (h42.cellv (j := 2) rfl) (h42.cellv (j := 3) rfl) (h42.cellv (j := 4) rfl) (h42.cellv (j := 5) rfl)
  refine held_of9 [30] (by kernel_rfl) (by decide) (List.forall_mem_singleton.2 ?_)
  refine op9 (L' := L9 [31, 32, 33]) 30 (by kernel_rfl) (by kernel_rfl) (by kernel_rfl) ?_
  refine wp_value (d := some 43) (v := .string t43) (by kernel_rfl) (run_callF (c := ⟨.value (.func 19), #[.const (.string fmB), .tmp 42], #[9, 319]⟩) (d := ⟨.fn (.func 19) #[], #[.string fmB, .slice (some ⟨g42, 0, none⟩) 6 6]⟩) (f := 19) (args := #[.string fmB, .slice (some ⟨g42, 0, none⟩) 6 6]) (by kernel_rfl) (by kernel_rfl) (by kernel_rfl) ht) ?_
  have hb1 : Below W.heap.size W W.drew := below_drewN (Below.refl _ _) 1
  have bl1 := bl.trans (hb1.mono bl.size)
  have hS1 := (C.at bl1).1
  refine ⟨hS1, ?_⟩
  rw [show (Fr9 p k mu he ms tk x y u10 u11 u12 g28 g42 0 t29 ⟨#[]⟩ [43, 44, 45, 46]).put (some 43) (.string t43) = (Fr9 p k mu he ms tk x y u10 u11 u12 g28 g42 0 t29 t43 [44, 45, 46]) from by kernel_rfl]
  refine held_at9 (a' := (Fr9 p k mu he ms tk x y u10 u11 u12 g28 g42 0 t29 t43 [45, 46])) (L' := L9 [32, 33]) 31 (d := some 44) (v := .agg #[.nilIface, .pointer none, .string t43, .bool false]) (by kernel_rfl) (by kernel_rfl) sel9_3 (by kernel_rfl) (by kernel_rfl) (fun c a w => C.hQ c a (some 44) _ w) (by kernel_rfl) (fun _ _ => by kernel_rfl) hS1 (by kernel_rfl) (by kernel_rfl) ?_
  refine held_of9 [32] (by kernel_rfl) (by decide) (List.forall_mem_singleton.2 ?_)
  refine op9 (L' := L9 [33]) 32 (by kernel_rfl) (by kernel_rfl) (by kernel_rfl) ?_
  refine wp_value (d := some 45) (v := .slice (some ⟨W.drew.heap.size, 0, none⟩) 1 1) (w' := W.drew.alloc (.cells #[.nilIface, .pointer none, .string t43, .bool false] 32)) (by kernel_rfl) (by kernel_rfl) ?_
  have bl2 := bl1.trans ((((Below.refl W.drew.heap.size W.drew).alloc (Nat.le_refl _) (.cells #[.nilIface, .pointer none, .string t43, .bool false] 32))).mono bl1.size)
  obtain ⟨g45, hg⟩ : ∃ g, g = W.drew.heap.size := ⟨_, rfl⟩
  rw [← hg]
  obtain ⟨W2, hW2⟩ : ∃ W2, W2 = W.drew.alloc (.cells #[.nilIface, .pointer none, .string t43, .bool false] 32) := ⟨_, rfl⟩
  rw [← hW2] at bl2 ⊢
  have hS2 := (C.at bl2).1
  refine ⟨hS2, ?_⟩
  rw [show (Fr9 p k mu he ms tk x y u10 u11 u12 g28 g42 0 t29 t43 [45, 46]).put (some 45) (.slice (some ⟨g45, 0, none⟩) 1 1) = (Fr9 p k mu he ms tk x y u10 u11 u12 g28 g42 g45 t29 t43 [46]) from by kernel_rfl]
  refine held_of9 [33] (by kernel_rfl) (by decide) (List.forall_mem_singleton.2 ?_)
  refine op9 (L' := L9 []) 33 (by kernel_rfl) (by kernel_rfl) (by kernel_rfl) ?_
  refine wp_enter (d := some 46) (f := 17) (args := #[.agg (logV k mu he ms), .pointer (some ⟨p, 67, none⟩), .agg #[.int .i32 0, .int .i32 0], .string t29, .slice (some ⟨g45, 0, none⟩) 1 1]) (by kernel_rfl) (by kernel_rfl) ?_
  refine (adderr17 B k mu he ms v n xs W2 (C.H.later bl2) p 67 0 0 t29 _ _ 1 1 rfl C.hn (hS2.1.cellv C.c76) hS2.1.lt).mono ?_
  rintro e1 w1 ⟨rfl, v1, h1, h2, h3⟩
  refine ⟨_, rfl, ⟨h2 _ _ _ (by decide) (by decide) (by decide) (by decide) hS2.1, hS2.2⟩, ?_⟩
  rw [show (Fr9 p k mu he ms tk x y u10 u11 u12 g28 g42 g45 t29 t43 [46]).put (some 46) (.tuple #[]) = (Fr9 p k mu he ms tk x y u10 u11 u12 g28 g42 g45 t29 t43 []) from by kernel_rfl]
  exact ⟨by kernel_rfl, C.hend g28 g42 g45 t29 t43 w1 ⟨rfl, v1, h1, (Kp.below bl2).trans h2, (bl2.mono C.H.hB).trans h3⟩⟩
set_option maxHeartbeats 4000000 in
theorem st9_16 {F : Interp} {Q : Exit → Act → World → Prop} {p k mu he ms : Nat} {tk : Int} {x y : ByteArray} {u10 u11 u12 : Value} {cs : Array Value} {B : Nat} {v : Value} {n : Nat} {xs : List Value} {W0 : World} (C : Ctx9 F Q p k mu he ms tk x y u10 u11 u12 cs B v n xs W0) (g28 : Nat) (g42 : Nat) (W : World) (bl : Below W0.heap.size W0 W) (h28 : RowAt W g28 (r28 x y) 20) (h42 : RowAt W g42 (r42 x y) 20) : wpAnyH Tryf.prog .any rg9_3.toArray Q (S9 p k mu he ms cs) 5 (L9 [16, 30, 31, 32, 33]) (Fr9 p k mu he ms tk x y u10 u11 u12 g28 g42 0 ⟨#[]⟩ ⟨#[]⟩ [29, 43, 44, 45, 46]) W := by
  have hA := C.at bl
  refine held_of9 [16] (by kernel_rfl) (by decide) ?_
  intro i hi
  simp only [List.mem_cons, List.not_mem_nil, or_false] at hi
  rcases hi with rfl
  · refine op9 (L' := L9 [30, 31, 32, 33]) 16 (by kernel_rfl) (by kernel_rfl) (by kernel_rfl) ?_
    obtain ⟨t, ht⟩ := spA F g28 x y W hA.2 (h28.cellv (j := 0) rfl) (h28.cellv (j := 1) rfl)
    refine wp_value (d := some 29) (v := .string t) (by kernel_rfl) (run_callF (c := ⟨.value (.func 19), #[.const (.string fmA), .tmp 28], #[9, 319]⟩) (d := ⟨.fn (.func 19) #[], #[.string fmA, .slice (some ⟨g28, 0, none⟩) 2 2]⟩) (f := 19) (args := #[.string fmA, .slice (some ⟨g28, 0, none⟩) 2 2]) (by kernel_rfl) (by kernel_rfl) (by kernel_rfl) ht) ?_
    have hb : Below W.heap.size W W.drew := below_drewN (Below.refl _ _) 1
    have bl1 := bl.trans (hb.mono bl.size)
    refine ⟨(C.at bl1).1, ?_⟩
    rw [show (Fr9 p k mu he ms tk x y u10 u11 u12 g28 g42 0 ⟨#[]⟩ ⟨#[]⟩ [29, 43, 44, 45, 46]).put (some 29) (.string t) = (Fr9 p k mu he ms tk x y u10 u11 u12 g28 g42 0 t ⟨#[]⟩ [43, 44, 45, 46]) from by kernel_rfl]
    exact tail9 C g28 g42 t _ bl1 (h42.below hb h42.lt)
set_option maxHeartbeats 4000000 in
theorem st9_29 {F : Interp} {Q : Exit → Act → World → Prop} {p k mu he ms : Nat} {tk : Int} {x y : ByteArray} {u10 u11 u12 : Value} {cs : Array Value} {B : Nat} {v : Value} {n : Nat} {xs : List Value} {W0 : World} (C : Ctx9 F Q p k mu he ms tk x y u10 u11 u12 cs B v n xs W0) (g28 : Nat) (t29 : ByteArray) (W : World) (bl : Below W0.heap.size W0 W) : wpAnyH Tryf.prog .any rg9_3.toArray Q (S9 p k mu he ms cs) 5 (L9 [29, 30, 31, 32, 33]) (Fr9 p k mu he ms tk x y u10 u11 u12 g28 0 0 t29 ⟨#[]⟩ [42, 43, 44, 45, 46]) W := by
  have hA := C.at bl
  refine held_of9 [29] (by kernel_rfl) (by decide) ?_
  intro i hi
  simp only [List.mem_cons, List.not_mem_nil, or_false] at hi
  rcases hi with rfl
  · refine op9 (L' := L9 [30, 31, 32, 33]) 29 (by kernel_rfl) (by kernel_rfl) (by kernel_rfl) ?_
    refine wp_value (d := some 42) (v := .slice (some ⟨W.heap.size, 0, none⟩) 6 6) (w' := W.alloc (.cells (r42 x y) 20)) (by kernel_rfl) (by kernel_rfl) ?_
    have hb : Below W.heap.size W (W.alloc (.cells (r42 x y) 20)) := (Below.refl _ _).alloc (Nat.le_refl _) _
    have hr : RowAt (W.alloc (.cells (r42 x y) 20)) W.heap.size (r42 x y) 20 := RowAt.new W _ _
    have bl1 := bl.trans (hb.mono bl.size)
    obtain ⟨b, hbe⟩ : ∃ b, b = W.heap.size := ⟨_, rfl⟩
    rw [← hbe] at hr ⊢
    refine ⟨(C.at bl1).1, ?_⟩
    rw [show (Fr9 p k mu he ms tk x y u10 u11 u12 g28 0 0 t29 ⟨#[]⟩ [42, 43, 44, 45, 46]).put (some 42) (.slice (some ⟨b, 0, none⟩) 6 6) = (Fr9 p k mu he ms tk x y u10 u11 u12 g28 b 0 t29 ⟨#[]⟩ [43, 44, 45, 46]) from by kernel_rfl]
    exact tail9 C g28 b t29 _ bl1 hr
set_option maxHeartbeats 4000000 in
theorem st9_1629 {F : Interp} {Q : Exit → Act → World → Prop} {p k mu he ms : Nat} {tk : Int} {x y : ByteArray} {u10 u11 u12 : Value} {cs : Array Value} {B : Nat} {v : Value} {n : Nat} {xs : List Value} {W0 : World} (C : Ctx9 F Q p k mu he ms tk x y u10 u11 u12 cs B v n xs W0) (g28 : Nat) (W : World) (bl : Below W0.heap.size W0 W) (h28 : RowAt W g28 (r28 x y) 20) : wpAnyH Tryf.prog .any rg9_3.toArray Q (S9 p k mu he ms cs) 6 (L9 [16, 29, 30, 31, 32, 33]) (Fr9 p k mu he ms tk x y u10 u11 u12 g28 0 0 ⟨#[]⟩ ⟨#[]⟩ [29, 42, 43, 44, 45, 46]) W := by
  have hA := C.at bl
  refine held_of9 [16, 29] (by kernel_rfl) (by decide) ?_
  intro i hi
  simp only [List.mem_cons, List.not_mem_nil, or_false] at hi
  rcases hi with rfl | rfl
  · refine op9 (L' := L9 [29, 30, 31, 32, 33]) 16 (by kernel_rfl) (by kernel_rfl) (by kernel_rfl) ?_
    obtain ⟨t, ht⟩ := spA F g28 x y W hA.2 (h28.cellv (j := 0) rfl) (h28.cellv (j := 1) rfl)
    refine wp_value (d := some 29) (v := .string t) (by kernel_rfl) (run_callF (c := ⟨.value (.func 19), #[.const (.string fmA), .tmp 28], #[9, 319]⟩) (d := ⟨.fn (.func 19) #[], #[.string fmA, .slice (some ⟨g28, 0, none⟩) 2 2]⟩) (f := 19) (args := #[.string fmA, .slice (some ⟨g28, 0, none⟩) 2 2]) (by kernel_rfl) (by kernel_rfl) (by kernel_rfl) ht) ?_
    have hb : Below W.heap.size W W.drew := below_drewN (Below.refl _ _) 1
    have bl1 := bl.trans (hb.mono bl.size)
    refine ⟨(C.at bl1).1, ?_⟩
    rw [show (Fr9 p k mu he ms tk x y u10 u11 u12 g28 0 0 ⟨#[]⟩ ⟨#[]⟩ [29, 42, 43, 44, 45, 46]).put (some 29) (.string t) = (Fr9 p k mu he ms tk x y u10 u11 u12 g28 0 0 t ⟨#[]⟩ [42, 43, 44, 45, 46]) from by kernel_rfl]
    exact st9_29 C g28 t _ bl1
  · refine op9 (L' := L9 [16, 30, 31, 32, 33]) 29 (by kernel_rfl) (by kernel_rfl) (by kernel_rfl) ?_
    refine wp_value (d := some 42) (v := .slice (some ⟨W.heap.size, 0, none⟩) 6 6) (w' := W.alloc (.cells (r42 x y) 20)) (by kernel_rfl) (by kernel_rfl) ?_
    have hb : Below W.heap.size W (W.alloc (.cells (r42 x y) 20)) := (Below.refl _ _).alloc (Nat.le_refl _) _
    have hr : RowAt (W.alloc (.cells (r42 x y) 20)) W.heap.size (r42 x y) 20 := RowAt.new W _ _
    have bl1 := bl.trans (hb.mono bl.size)
    obtain ⟨b, hbe⟩ : ∃ b, b = W.heap.size := ⟨_, rfl⟩
    rw [← hbe] at hr ⊢
    refine ⟨(C.at bl1).1, ?_⟩
    rw [show (Fr9 p k mu he ms tk x y u10 u11 u12 g28 0 0 ⟨#[]⟩ ⟨#[]⟩ [29, 42, 43, 44, 45, 46]).put (some 42) (.slice (some ⟨b, 0, none⟩) 6 6) = (Fr9 p k mu he ms tk x y u10 u11 u12 g28 b 0 ⟨#[]⟩ ⟨#[]⟩ [29, 43, 44, 45, 46]) from by kernel_rfl]
    exact st9_16 C g28 b _ bl1 (h28.below hb h28.lt) hr
set_option maxHeartbeats 4000000 in
theorem st9_1016 {F : Interp} {Q : Exit → Act → World → Prop} {p k mu he ms : Nat} {tk : Int} {x y : ByteArray} {u10 u11 u12 : Value} {cs : Array Value} {B : Nat} {v : Value} {n : Nat} {xs : List Value} {W0 : World} (C : Ctx9 F Q p k mu he ms tk x y u10 u11 u12 cs B v n xs W0) (g28 : Nat) (g42 : Nat) (W : World) (bl : Below W0.heap.size W0 W) (h28 : RowAt W g28 (r28 x y) 20) (h42 : RowAt W g42 (r42 x y) 20) : wpAnyH Tryf.prog .any rg9_3.toArray Q (S9 p k mu he ms cs) 6 (L9 [10, 16, 30, 31, 32, 33]) (Fr9 p k mu he ms tk x y u10 u11 u12 g28 g42 0 ⟨#[]⟩ ⟨#[]⟩ [23, 29, 43, 44, 45, 46]) W := by
  have hA := C.at bl
  refine held_of9 [10] (by kernel_rfl) (by decide) ?_
  intro i hi
  simp only [List.mem_cons, List.not_mem_nil, or_false] at hi
  rcases hi with rfl
  · refine op9 (L' := L9 [16, 30, 31, 32, 33]) 10 (by kernel_rfl) (by kernel_rfl) (by kernel_rfl) ?_
    refine wp_enter (d := some 23) (f := 18) (args := #[.pointer (some ⟨p, 201, none⟩)]) (by kernel_rfl) (by kernel_rfl) ?_
    refine (range18 p cs W hA.1.1 C.c254 C.c255).mono ?_
    rintro e1 w1 ⟨rfl, hb⟩
    have bl1 := bl.trans (hb.mono bl.size)
    refine ⟨_, rfl, (C.at bl1).1, ?_⟩
    rw [show (Fr9 p k mu he ms tk x y u10 u11 u12 g28 g42 0 ⟨#[]⟩ ⟨#[]⟩ [23, 29, 43, 44, 45, 46]).put (some 23) (.agg #[.int .i32 0, .int .i32 0]) = (Fr9 p k mu he ms tk x y u10 u11 u12 g28 g42 0 ⟨#[]⟩ ⟨#[]⟩ [29, 43, 44, 45, 46]) from by kernel_rfl]
    exact st9_16 C g28 g42 w1 bl1 (h28.below hb h28.lt) (h42.below hb h42.lt)
set_option maxHeartbeats 4000000 in
theorem st9_1516 {F : Interp} {Q : Exit → Act → World → Prop} {p k mu he ms : Nat} {tk : Int} {x y : ByteArray} {u10 u11 u12 : Value} {cs : Array Value} {B : Nat} {v : Value} {n : Nat} {xs : List Value} {W0 : World} (C : Ctx9 F Q p k mu he ms tk x y u10 u11 u12 cs B v n xs W0) (g42 : Nat) (W : World) (bl : Below W0.heap.size W0 W) (h42 : RowAt W g42 (r42 x y) 20) : wpAnyH Tryf.prog .any rg9_3.toArray Q (S9 p k mu he ms cs) 6 (L9 [15, 16, 30, 31, 32, 33]) (Fr9 p k mu he ms tk x y u10 u11 u12 0 g42 0 ⟨#[]⟩ ⟨#[]⟩ [28, 29, 43, 44, 45, 46]) W := by
  have hA := C.at bl
  refine held_of9 [15] (by kernel_rfl) (by decide) ?_
  intro i hi
  simp only [List.mem_cons, List.not_mem_nil, or_false] at hi
  rcases hi with rfl
  · refine op9 (L' := L9 [16, 30, 31, 32, 33]) 15 (by kernel_rfl) (by kernel_rfl) (by kernel_rfl) ?_
    refine wp_value (d := some 28) (v := .slice (some ⟨W.heap.size, 0, none⟩) 2 2) (w' := W.alloc (.cells (r28 x y) 20)) (by kernel_rfl) (by kernel_rfl) ?_
    have hb : Below W.heap.size W (W.alloc (.cells (r28 x y) 20)) := (Below.refl _ _).alloc (Nat.le_refl _) _
    have hr : RowAt (W.alloc (.cells (r28 x y) 20)) W.heap.size (r28 x y) 20 := RowAt.new W _ _
    have bl1 := bl.trans (hb.mono bl.size)
    obtain ⟨b, hbe⟩ : ∃ b, b = W.heap.size := ⟨_, rfl⟩
    rw [← hbe] at hr ⊢
    refine ⟨(C.at bl1).1, ?_⟩
    rw [show (Fr9 p k mu he ms tk x y u10 u11 u12 0 g42 0 ⟨#[]⟩ ⟨#[]⟩ [28, 29, 43, 44, 45, 46]).put (some 28) (.slice (some ⟨b, 0, none⟩) 2 2) = (Fr9 p k mu he ms tk x y u10 u11 u12 b g42 0 ⟨#[]⟩ ⟨#[]⟩ [29, 43, 44, 45, 46]) from by kernel_rfl]
    exact st9_16 C b g42 _ bl1 hr (h42.below hb h42.lt)
set_option maxHeartbeats 4000000 in
theorem st9_101629 {F : Interp} {Q : Exit → Act → World → Prop} {p k mu he ms : Nat} {tk : Int} {x y : ByteArray} {u10 u11 u12 : Value} {cs : Array Value} {B : Nat} {v : Value} {n : Nat} {xs : List Value} {W0 : World} (C : Ctx9 F Q p k mu he ms tk x y u10 u11 u12 cs B v n xs W0) (g28 : Nat) (W : World) (bl : Below W0.heap.size W0 W) (h28 : RowAt W g28 (r28 x y) 20) : wpAnyH Tryf.prog .any rg9_3.toArray Q (S9 p k mu he ms cs) 7 (L9 [10, 16, 29, 30, 31, 32, 33]) (Fr9 p k mu he ms tk x y u10 u11 u12 g28 0 0 ⟨#[]⟩ ⟨#[]⟩ [23, 29, 42, 43, 44, 45, 46]) W := by
  have hA := C.at bl
  refine held_of9 [10, 29] (by kernel_rfl) (by decide) ?_
  intro i hi
  simp only [List.mem_cons, List.not_mem_nil, or_false] at hi
  rcases hi with rfl | rfl
  · refine op9 (L' := L9 [16, 29, 30, 31, 32, 33]) 10 (by kernel_rfl) (by kernel_rfl) (by kernel_rfl) ?_
    refine wp_enter (d := some 23) (f := 18) (args := #[.pointer (some ⟨p, 201, none⟩)]) (by kernel_rfl) (by kernel_rfl) ?_
    refine (range18 p cs W hA.1.1 C.c254 C.c255).mono ?_
    rintro e1 w1 ⟨rfl, hb⟩
    have bl1 := bl.trans (hb.mono bl.size)
    refine ⟨_, rfl, (C.at bl1).1, ?_⟩
    rw [show (Fr9 p k mu he ms tk x y u10 u11 u12 g28 0 0 ⟨#[]⟩ ⟨#[]⟩ [23, 29, 42, 43, 44, 45, 46]).put (some 23) (.agg #[.int .i32 0, .int .i32 0]) = (Fr9 p k mu he ms tk x y u10 u11 u12 g28 0 0 ⟨#[]⟩ ⟨#[]⟩ [29, 42, 43, 44, 45, 46]) from by kernel_rfl]
    exact st9_1629 C g28 w1 bl1 (h28.below hb h28.lt)
  · refine op9 (L' := L9 [10, 16, 30, 31, 32, 33]) 29 (by kernel_rfl) (by kernel_rfl) (by kernel_rfl) ?_
    refine wp_value (d := some 42) (v := .slice (some ⟨W.heap.size, 0, none⟩) 6 6) (w' := W.alloc (.cells (r42 x y) 20)) (by kernel_rfl) (by kernel_rfl) ?_
    have hb : Below W.heap.size W (W.alloc (.cells (r42 x y) 20)) := (Below.refl _ _).alloc (Nat.le_refl _) _
    have hr : RowAt (W.alloc (.cells (r42 x y) 20)) W.heap.size (r42 x y) 20 := RowAt.new W _ _
    have bl1 := bl.trans (hb.mono bl.size)
    obtain ⟨b, hbe⟩ : ∃ b, b = W.heap.size := ⟨_, rfl⟩
    rw [← hbe] at hr ⊢
    refine ⟨(C.at bl1).1, ?_⟩
    rw [show (Fr9 p k mu he ms tk x y u10 u11 u12 g28 0 0 ⟨#[]⟩ ⟨#[]⟩ [23, 29, 42, 43, 44, 45, 46]).put (some 42) (.slice (some ⟨b, 0, none⟩) 6 6) = (Fr9 p k mu he ms tk x y u10 u11 u12 g28 b 0 ⟨#[]⟩ ⟨#[]⟩ [23, 29, 43, 44, 45, 46]) from by kernel_rfl]
    exact st9_1016 C g28 b _ bl1 (h28.below hb h28.lt) hr
set_option maxHeartbeats 4000000 in
theorem st9_151629 {F : Interp} {Q : Exit → Act → World → Prop} {p k mu he ms : Nat} {tk : Int} {x y : ByteArray} {u10 u11 u12 : Value} {cs : Array Value} {B : Nat} {v : Value} {n : Nat} {xs : List Value} {W0 : World} (C : Ctx9 F Q p k mu he ms tk x y u10 u11 u12 cs B v n xs W0) (W : World) (bl : Below W0.heap.size W0 W) : wpAnyH Tryf.prog .any rg9_3.toArray Q (S9 p k mu he ms cs) 7 (L9 [15, 16, 29, 30, 31, 32, 33]) (Fr9 p k mu he ms tk x y u10 u11 u12 0 0 0 ⟨#[]⟩ ⟨#[]⟩ [28, 29, 42, 43, 44, 45, 46]) W := by
  have hA := C.at bl
  refine held_of9 [15, 29] (by kernel_rfl) (by decide) ?_
  intro i hi
  simp only [List.mem_cons, List.not_mem_nil, or_false] at hi
  rcases hi with rfl | rfl
  · refine op9 (L' := L9 [16, 29, 30, 31, 32, 33]) 15 (by kernel_rfl) (by kernel_rfl) (by kernel_rfl) ?_
    refine wp_value (d := some 28) (v := .slice (some ⟨W.heap.size, 0, none⟩) 2 2) (w' := W.alloc (.cells (r28 x y) 20)) (by kernel_rfl) (by kernel_rfl) ?_
    have hb : Below W.heap.size W (W.alloc (.cells (r28 x y) 20)) := (Below.refl _ _).alloc (Nat.le_refl _) _
    have hr : RowAt (W.alloc (.cells (r28 x y) 20)) W.heap.size (r28 x y) 20 := RowAt.new W _ _
    have bl1 := bl.trans (hb.mono bl.size)
    obtain ⟨b, hbe⟩ : ∃ b, b = W.heap.size := ⟨_, rfl⟩
    rw [← hbe] at hr ⊢
    refine ⟨(C.at bl1).1, ?_⟩
    rw [show (Fr9 p k mu he ms tk x y u10 u11 u12 0 0 0 ⟨#[]⟩ ⟨#[]⟩ [28, 29, 42, 43, 44, 45, 46]).put (some 28) (.slice (some ⟨b, 0, none⟩) 2 2) = (Fr9 p k mu he ms tk x y u10 u11 u12 b 0 0 ⟨#[]⟩ ⟨#[]⟩ [29, 42, 43, 44, 45, 46]) from by kernel_rfl]
    exact st9_1629 C b _ bl1 hr
  · refine op9 (L' := L9 [15, 16, 30, 31, 32, 33]) 29 (by kernel_rfl) (by kernel_rfl) (by kernel_rfl) ?_
    refine wp_value (d := some 42) (v := .slice (some ⟨W.heap.size, 0, none⟩) 6 6) (w' := W.alloc (.cells (r42 x y) 20)) (by kernel_rfl) (by kernel_rfl) ?_
    have hb : Below W.heap.size W (W.alloc (.cells (r42 x y) 20)) := (Below.refl _ _).alloc (Nat.le_refl _) _
    have hr : RowAt (W.alloc (.cells (r42 x y) 20)) W.heap.size (r42 x y) 20 := RowAt.new W _ _
    have bl1 := bl.trans (hb.mono bl.size)
    obtain ⟨b, hbe⟩ : ∃ b, b = W.heap.size := ⟨_, rfl⟩
    rw [← hbe] at hr ⊢
    refine ⟨(C.at bl1).1, ?_⟩
    rw [show (Fr9 p k mu he ms tk x y u10 u11 u12 0 0 0 ⟨#[]⟩ ⟨#[]⟩ [28, 29, 42, 43, 44, 45, 46]).put (some 42) (.slice (some ⟨b, 0, none⟩) 6 6) = (Fr9 p k mu he ms tk x y u10 u11 u12 0 b 0 ⟨#[]⟩ ⟨#[]⟩ [28, 29, 43, 44, 45, 46]) from by kernel_rfl]
    exact st9_1516 C b _ bl1 hr
set_option maxHeartbeats 4000000 in
theorem st9_101516 {F : Interp} {Q : Exit → Act → World → Prop} {p k mu he ms : Nat} {tk : Int} {x y : ByteArray} {u10 u11 u12 : Value} {cs : Array Value} {B : Nat} {v : Value} {n : Nat} {xs : List Value} {W0 : World} (C : Ctx9 F Q p k mu he ms tk x y u10 u11 u12 cs B v n xs W0) (g42 : Nat) (W : World) (bl : Below W0.heap.size W0 W) (h42 : RowAt W g42 (r42 x y) 20) : wpAnyH Tryf.prog .any rg9_3.toArray Q (S9 p k mu he ms cs) 7 (L9 [10, 15, 16, 30, 31, 32, 33]) (Fr9 p k mu he ms tk x y u10 u11 u12 0 g42 0 ⟨#[]⟩ ⟨#[]⟩ [23, 28, 29, 43, 44, 45, 46]) W := by
  have hA := C.at bl
  refine held_of9 [10, 15] (by kernel_rfl) (by decide) ?_
  intro i hi
  simp only [List.mem_cons, List.not_mem_nil, or_false] at hi
  rcases hi with rfl | rfl
  · refine op9 (L' := L9 [15, 16, 30, 31, 32, 33]) 10 (by kernel_rfl) (by kernel_rfl) (by kernel_rfl) ?_
    refine wp_enter (d := some 23) (f := 18) (args := #[.pointer (some ⟨p, 201, none⟩)]) (by kernel_rfl) (by kernel_rfl) ?_
    refine (range18 p cs W hA.1.1 C.c254 C.c255).mono ?_
    rintro e1 w1 ⟨rfl, hb⟩
    have bl1 := bl.trans (hb.mono bl.size)
    refine ⟨_, rfl, (C.at bl1).1, ?_⟩
    rw [show (Fr9 p k mu he ms tk x y u10 u11 u12 0 g42 0 ⟨#[]⟩ ⟨#[]⟩ [23, 28, 29, 43, 44, 45, 46]).put (some 23) (.agg #[.int .i32 0, .int .i32 0]) = (Fr9 p k mu he ms tk x y u10 u11 u12 0 g42 0 ⟨#[]⟩ ⟨#[]⟩ [28, 29, 43, 44, 45, 46]) from by kernel_rfl]
    exact st9_1516 C g42 w1 bl1 (h42.below hb h42.lt)
  · refine op9 (L' := L9 [10, 16, 30, 31, 32, 33]) 15 (by kernel_rfl) (by kernel_rfl) (by kernel_rfl) ?_
    refine wp_value (d := some 28) (v := .slice (some ⟨W.heap.size, 0, none⟩) 2 2) (w' := W.alloc (.cells (r28 x y) 20)) (by kernel_rfl) (by kernel_rfl) ?_
    have hb : Below W.heap.size W (W.alloc (.cells (r28 x y) 20)) := (Below.refl _ _).alloc (Nat.le_refl _) _
    have hr : RowAt (W.alloc (.cells (r28 x y) 20)) W.heap.size (r28 x y) 20 := RowAt.new W _ _
    have bl1 := bl.trans (hb.mono bl.size)
    obtain ⟨b, hbe⟩ : ∃ b, b = W.heap.size := ⟨_, rfl⟩
    rw [← hbe] at hr ⊢
    refine ⟨(C.at bl1).1, ?_⟩
    rw [show (Fr9 p k mu he ms tk x y u10 u11 u12 0 g42 0 ⟨#[]⟩ ⟨#[]⟩ [23, 28, 29, 43, 44, 45, 46]).put (some 28) (.slice (some ⟨b, 0, none⟩) 2 2) = (Fr9 p k mu he ms tk x y u10 u11 u12 b g42 0 ⟨#[]⟩ ⟨#[]⟩ [23, 29, 43, 44, 45, 46]) from by kernel_rfl]
    exact st9_1016 C b g42 _ bl1 hr (h42.below hb h42.lt)
set_option maxHeartbeats 4000000 in
theorem st9_10151629 {F : Interp} {Q : Exit → Act → World → Prop} {p k mu he ms : Nat} {tk : Int} {x y : ByteArray} {u10 u11 u12 : Value} {cs : Array Value} {B : Nat} {v : Value} {n : Nat} {xs : List Value} {W0 : World} (C : Ctx9 F Q p k mu he ms tk x y u10 u11 u12 cs B v n xs W0) (W : World) (bl : Below W0.heap.size W0 W) : wpAnyH Tryf.prog .any rg9_3.toArray Q (S9 p k mu he ms cs) 8 (L9 [10, 15, 16, 29, 30, 31, 32, 33]) (Fr9 p k mu he ms tk x y u10 u11 u12 0 0 0 ⟨#[]⟩ ⟨#[]⟩ [23, 28, 29, 42, 43, 44, 45, 46]) W := by
  have hA := C.at bl
  refine held_of9 [10, 15, 29] (by kernel_rfl) (by decide) ?_
  intro i hi
  simp only [List.mem_cons, List.not_mem_nil, or_false] at hi
  rcases hi with rfl | rfl | rfl
  · refine op9 (L' := L9 [15, 16, 29, 30, 31, 32, 33]) 10 (by kernel_rfl) (by kernel_rfl) (by kernel_rfl) ?_
    refine wp_enter (d := some 23) (f := 18) (args := #[.pointer (some ⟨p, 201, none⟩)]) (by kernel_rfl) (by kernel_rfl) ?_
    refine (range18 p cs W hA.1.1 C.c254 C.c255).mono ?_
    rintro e1 w1 ⟨rfl, hb⟩
    have bl1 := bl.trans (hb.mono bl.size)
    refine ⟨_, rfl, (C.at bl1).1, ?_⟩
    rw [show (Fr9 p k mu he ms tk x y u10 u11 u12 0 0 0 ⟨#[]⟩ ⟨#[]⟩ [23, 28, 29, 42, 43, 44, 45, 46]).put (some 23) (.agg #[.int .i32 0, .int .i32 0]) = (Fr9 p k mu he ms tk x y u10 u11 u12 0 0 0 ⟨#[]⟩ ⟨#[]⟩ [28, 29, 42, 43, 44, 45, 46]) from by kernel_rfl]
    exact st9_151629 C w1 bl1
  · refine op9 (L' := L9 [10, 16, 29, 30, 31, 32, 33]) 15 (by kernel_rfl) (by kernel_rfl) (by kernel_rfl) ?_
    refine wp_value (d := some 28) (v := .slice (some ⟨W.heap.size, 0, none⟩) 2 2) (w' := W.alloc (.cells (r28 x y) 20)) (by kernel_rfl) (by kernel_rfl) ?_
    have hb : Below W.heap.size W (W.alloc (.cells (r28 x y) 20)) := (Below.refl _ _).alloc (Nat.le_refl _) _
    have hr : RowAt (W.alloc (.cells (r28 x y) 20)) W.heap.size (r28 x y) 20 := RowAt.new W _ _
    have bl1 := bl.trans (hb.mono bl.size)
    obtain ⟨b, hbe⟩ : ∃ b, b = W.heap.size := ⟨_, rfl⟩
    rw [← hbe] at hr ⊢
    refine ⟨(C.at bl1).1, ?_⟩
    rw [show (Fr9 p k mu he ms tk x y u10 u11 u12 0 0 0 ⟨#[]⟩ ⟨#[]⟩ [23, 28, 29, 42, 43, 44, 45, 46]).put (some 28) (.slice (some ⟨b, 0, none⟩) 2 2) = (Fr9 p k mu he ms tk x y u10 u11 u12 b 0 0 ⟨#[]⟩ ⟨#[]⟩ [23, 29, 42, 43, 44, 45, 46]) from by kernel_rfl]
    exact st9_101629 C b _ bl1 hr
  · refine op9 (L' := L9 [10, 15, 16, 30, 31, 32, 33]) 29 (by kernel_rfl) (by kernel_rfl) (by kernel_rfl) ?_
    refine wp_value (d := some 42) (v := .slice (some ⟨W.heap.size, 0, none⟩) 6 6) (w' := W.alloc (.cells (r42 x y) 20)) (by kernel_rfl) (by kernel_rfl) ?_
    have hb : Below W.heap.size W (W.alloc (.cells (r42 x y) 20)) := (Below.refl _ _).alloc (Nat.le_refl _) _
    have hr : RowAt (W.alloc (.cells (r42 x y) 20)) W.heap.size (r42 x y) 20 := RowAt.new W _ _
    have bl1 := bl.trans (hb.mono bl.size)
    obtain ⟨b, hbe⟩ : ∃ b, b = W.heap.size := ⟨_, rfl⟩
    rw [← hbe] at hr ⊢
    refine ⟨(C.at bl1).1, ?_⟩
    rw [show (Fr9 p k mu he ms tk x y u10 u11 u12 0 0 0 ⟨#[]⟩ ⟨#[]⟩ [23, 28, 29, 42, 43, 44, 45, 46]).put (some 42) (.slice (some ⟨b, 0, none⟩) 6 6) = (Fr9 p k mu he ms tk x y u10 u11 u12 0 b 0 ⟨#[]⟩ ⟨#[]⟩ [23, 28, 29, 43, 44, 45, 46]) from by kernel_rfl]
    exact st9_101516 C b _ bl1 hr
set_option maxHeartbeats 4000000 in
theorem rgn9 {F : Interp} {Q : Exit → Act → World → Prop} {p k mu he ms : Nat} {tk : Int} {x y : ByteArray} {u10 u11 u12 : Value} {cs : Array Value} {B : Nat} {v : Value} {n : Nat} {xs : List Value} {W0 : World} (C : Ctx9 F Q p k mu he ms tk x y u10 u11 u12 cs B v n xs W0) : (Code.region 3 rg9_3.toArray true).wp Tryf.prog Q ⟨List.toArray (Value.pointer (some ⟨p, 0, none⟩) :: Value.string x :: undef :: undef :: Value.string y :: Value.pointer (some ⟨p, 0, none⟩) :: Value.pointer (some ⟨p, 0, none⟩) :: Value.pointer (some ⟨p, 201, none⟩) :: Value.pointer (some ⟨p, 270, none⟩) :: Value.int .u8 tk :: u10 :: u11 :: u12 :: undef :: undef :: undef :: undef :: undef :: undef :: undef :: undef :: undef :: undef :: undef :: undef :: undef :: undef :: undef :: undef :: undef :: undef :: undef :: undef :: undef :: undef :: undef :: undef :: undef :: undef :: undef :: undef :: undef :: undef :: undef :: undef :: undef :: undef :: []), []⟩ W0 := by
  have hb : Below W0.heap.size W0 W0.drew := below_drewN (Below.refl _ _) 1
  obtain ⟨W, hW⟩ : ∃ W, W = W0.drew := ⟨_, rfl⟩
  refine held_begin (N := 34) (S := (S9 p k mu he ms cs)) (a' := (Fr9 p k mu he ms tk x y u10 u11 u12 0 0 0 ⟨#[]⟩ ⟨#[]⟩ [13, 14, 15, 16, 17, 18, 19, 20, 21, 22, 23, 24, 25, 26, 27, 28, 29, 30, 31, 32, 33, 34, 35, 36, 37, 38, 39, 40, 41, 42, 43, 44, 45, 46])) (by kernel_rfl) (by kernel_rfl) (by kernel_rfl) (C.at hb).1 (fun hS => ?_)
  rw [show Lk 34 0 = L9 [0, 1, 2, 3, 4, 5, 6, 7, 8, 9, 10, 11, 12, 13, 14, 15, 16, 17, 18, 19, 20, 21, 22, 23, 24, 25, 26, 27, 28, 29, 30, 31, 32, 33] from by kernel_rfl]
  rw [← hW] at hb hS ⊢
  refine held_at9 (a' := (Fr9 p k mu he ms tk x y u10 u11 u12 0 0 0 ⟨#[]⟩ ⟨#[]⟩ [14, 15, 16, 17, 18, 19, 20, 21, 22, 23, 24, 25, 26, 27, 28, 29, 30, 31, 32, 33, 34, 35, 36, 37, 38, 39, 40, 41, 42, 43, 44, 45, 46])) (L' := L9 [1, 2, 3, 4, 5, 6, 7, 8, 9, 10, 11, 12, 13, 14, 15, 16, 17, 18, 19, 20, 21, 22, 23, 24, 25, 26, 27, 28, 29, 30, 31, 32, 33]) 0 (d := some 13) (v := .pointer (some ⟨p, 0, none⟩)) (by kernel_rfl) (by kernel_rfl) sel9_3 (by kernel_rfl) (by kernel_rfl) (fun c a w => C.hQ c a (some 13) _ w) (by kernel_rfl) (fun _ _ => by kernel_rfl) hS (by kernel_rfl) (by kernel_rfl) ?_
  refine held_at9 (a' := (Fr9 p k mu he ms tk x y u10 u11 u12 0 0 0 ⟨#[]⟩ ⟨#[]⟩ [15, 16, 17, 18, 19, 20, 21, 22, 23, 24, 25, 26, 27, 28, 29, 30, 31, 32, 33, 34, 35, 36, 37, 38, 39, 40, 41, 42, 43, 44, 45, 46])) (L' := L9 [2, 3, 4, 5, 6, 7, 8, 9, 10, 11, 12, 13, 14, 15, 16, 17, 18, 19, 20, 21, 22, 23, 24, 25, 26, 27, 28, 29, 30, 31, 32, 33]) 1 (d := some 14) (v := .pointer (some ⟨p, 0, none⟩)) (by kernel_rfl) (by kernel_rfl) sel9_3 (by kernel_rfl) (by kernel_rfl) (fun c a w => C.hQ c a (some 14) _ w) (by kernel_rfl) (fun _ _ => by kernel_rfl) hS (by kernel_rfl) (by kernel_rfl) ?_
  refine held_at9 (a' := (Fr9 p k mu he ms tk x y u10 u11 u12 0 0 0 ⟨#[]⟩ ⟨#[]⟩ [16, 17, 18, 19, 20, 21, 22, 23, 24, 25, 26, 27, 28, 29, 30, 31, 32, 33, 34, 35, 36, 37, 38, 39, 40, 41, 42, 43, 44, 45, 46])) (L' := L9 [3, 4, 5, 6, 7, 8, 9, 10, 11, 12, 13, 14, 15, 16, 17, 18, 19, 20, 21, 22, 23, 24, 25, 26, 27, 28, 29, 30, 31, 32, 33]) 2 (d := some 15) (v := .pointer (some ⟨p, 51, none⟩)) (by kernel_rfl) (by kernel_rfl) sel9_3 (by kernel_rfl) (by kernel_rfl) (fun c a w => C.hQ c a (some 15) _ w) (by kernel_rfl) (fun _ _ => by kernel_rfl) hS (by kernel_rfl) (by kernel_rfl) ?_
  refine held_at9 (a' := (Fr9 p k mu he ms tk x y u10 u11 u12 0 0 0 ⟨#[]⟩ ⟨#[]⟩ [17, 18, 19, 20, 21, 22, 23, 24, 25, 26, 27, 28, 29, 30, 31, 32, 33, 34, 35, 36, 37, 38, 39, 40, 41, 42, 43, 44, 45, 46])) (L' := L9 [4, 5, 6, 7, 8, 9, 10, 11, 12, 13, 14, 15, 16, 17, 18, 19, 20, 21, 22, 23, 24, 25, 26, 27, 28, 29, 30, 31, 32, 33]) 3 (d := some 16) (v := .agg (logV k mu he ms)) (by kernel_rfl) (by kernel_rfl) sel9_3 (by kernel_rfl) (by kernel_rfl) (fun c a w => C.hQ c a (some 16) _ w) (by kernel_rfl) (fun _ hS => run_ld (T := 43) (x := .tmp 15) (by kernel_rfl) (by kernel_rfl) (ld_mid hS.1 43 51 _ (logV k mu he ms).toList hS.2 Tryf.underlying43 rfl (by kernel_rfl))) hS (by kernel_rfl) (by kernel_rfl) ?_
  refine held_at9 (a' := (Fr9 p k mu he ms tk x y u10 u11 u12 0 0 0 ⟨#[]⟩ ⟨#[]⟩ [18, 19, 20, 21, 22, 23, 24, 25, 26, 27, 28, 29, 30, 31, 32, 33, 34, 35, 36, 37, 38, 39, 40, 41, 42, 43, 44, 45, 46])) (L' := L9 [5, 6, 7, 8, 9, 10, 11, 12, 13, 14, 15, 16, 17, 18, 19, 20, 21, 22, 23, 24, 25, 26, 27, 28, 29, 30, 31, 32, 33]) 4 (d := some 17) (v := .pointer (some ⟨p, 0, none⟩)) (by kernel_rfl) (by kernel_rfl) sel9_3 (by kernel_rfl) (by kernel_rfl) (fun c a w => C.hQ c a (some 17) _ w) (by kernel_rfl) (fun _ _ => by kernel_rfl) hS (by kernel_rfl) (by kernel_rfl) ?_
  refine held_at9 (a' := (Fr9 p k mu he ms tk x y u10 u11 u12 0 0 0 ⟨#[]⟩ ⟨#[]⟩ [19, 20, 21, 22, 23, 24, 25, 26, 27, 28, 29, 30, 31, 32, 33, 34, 35, 36, 37, 38, 39, 40, 41, 42, 43, 44, 45, 46])) (L' := L9 [6, 7, 8, 9, 10, 11, 12, 13, 14, 15, 16, 17, 18, 19, 20, 21, 22, 23, 24, 25, 26, 27, 28, 29, 30, 31, 32, 33]) 5 (d := some 18) (v := .pointer (some ⟨p, 0, none⟩)) (by kernel_rfl) (by kernel_rfl) sel9_3 (by kernel_rfl) (by kernel_rfl) (fun c a w => C.hQ c a (some 18) _ w) (by kernel_rfl) (fun _ _ => by kernel_rfl) hS (by kernel_rfl) (by kernel_rfl) ?_
  refine held_at9 (a' := (Fr9 p k mu he ms tk x y u10 u11 u12 0 0 0 ⟨#[]⟩ ⟨#[]⟩ [20, 21, 22, 23, 24, 25, 26, 27, 28, 29, 30, 31, 32, 33, 34, 35, 36, 37, 38, 39, 40, 41, 42, 43, 44, 45, 46])) (L' := L9 [7, 8, 9, 10, 11, 12, 13, 14, 15, 16, 17, 18, 19, 20, 21, 22, 23, 24, 25, 26, 27, 28, 29, 30, 31, 32, 33]) 6 (d := some 19) (v := .pointer (some ⟨p, 67, none⟩)) (by kernel_rfl) (by kernel_rfl) sel9_3 (by kernel_rfl) (by kernel_rfl) (fun c a w => C.hQ c a (some 19) _ w) (by kernel_rfl) (fun _ _ => by kernel_rfl) hS (by kernel_rfl) (by kernel_rfl) ?_
  refine held_at9 (a' := (Fr9 p k mu he ms tk x y u10 u11 u12 0 0 0 ⟨#[]⟩ ⟨#[]⟩ [21, 22, 23, 24, 25, 26, 27, 28, 29, 30, 31, 32, 33, 34, 35, 36, 37, 38, 39, 40, 41, 42, 43, 44, 45, 46])) (L' := L9 [8, 9, 10, 11, 12, 13, 14, 15, 16, 17, 18, 19, 20, 21, 22, 23, 24, 25, 26, 27, 28, 29, 30, 31, 32, 33]) 7 (d := some 20) (v := .pointer (some ⟨p, 0, none⟩)) (by kernel_rfl) (by kernel_rfl) sel9_3 (by kernel_rfl) (by kernel_rfl) (fun c a w => C.hQ c a (some 20) _ w) (by kernel_rfl) (fun _ _ => by kernel_rfl) hS (by kernel_rfl) (by kernel_rfl) ?_
  refine held_at9 (a' := (Fr9 p k mu he ms tk x y u10 u11 u12 0 0 0 ⟨#[]⟩ ⟨#[]⟩ [22, 23, 24, 25, 26, 27, 28, 29, 30, 31, 32, 33, 34, 35, 36, 37, 38, 39, 40, 41, 42, 43, 44, 45, 46])) (L' := L9 [9, 10, 11, 12, 13, 14, 15, 16, 17, 18, 19, 20, 21, 22, 23, 24, 25, 26, 27, 28, 29, 30, 31, 32, 33]) 8 (d := some 21) (v := .pointer (some ⟨p, 0, none⟩)) (by kernel_rfl) (by kernel_rfl) sel9_3 (by kernel_rfl) (by kernel_rfl) (fun c a w => C.hQ c a (some 21) _ w) (by kernel_rfl) (fun _ _ => by kernel_rfl) hS (by kernel_rfl) (by kernel_rfl) ?_
  refine held_at9 (a' := (Fr9 p k mu he ms tk x y u10 u11 u12 0 0 0 ⟨#[]⟩ ⟨#[]⟩ [23, 24, 25, 26, 27, 28, 29, 30, 31, 32, 33, 34, 35, 36, 37, 38, 39, 40, 41, 42, 43, 44, 45, 46])) (L' := L9 [10, 11, 12, 13, 14, 15, 16, 17, 18, 19, 20, 21, 22, 23, 24, 25, 26, 27, 28, 29, 30, 31, 32, 33]) 9 (d := some 22) (v := .pointer (some ⟨p, 201, none⟩)) (by kernel_rfl) (by kernel_rfl) sel9_3 (by kernel_rfl) (by kernel_rfl) (fun c a w => C.hQ c a (some 22) _ w) (by kernel_rfl) (fun _ _ => by kernel_rfl) hS (by kernel_rfl) (by kernel_rfl) ?_
  refine held_at9 (a' := (Fr9 p k mu he ms tk x y u10 u11 u12 0 0 0 ⟨#[]⟩ ⟨#[]⟩ [23, 25, 26, 27, 28, 29, 30, 31, 32, 33, 34, 35, 36, 37, 38, 39, 40, 41, 42, 43, 44, 45, 46])) (L' := L9 [10, 12, 13, 14, 15, 16, 17, 18, 19, 20, 21, 22, 23, 24, 25, 26, 27, 28, 29, 30, 31, 32, 33]) 11 (d := some 24) (v := .string x) (by kernel_rfl) (by kernel_rfl) sel9_3 (by kernel_rfl) (by kernel_rfl) (fun c a w => C.hQ c a (some 24) _ w) (by kernel_rfl) (fun _ _ => by kernel_rfl) hS (by kernel_rfl) (by kernel_rfl) ?_
  refine held_at9 (a' := (Fr9 p k mu he ms tk x y u10 u11 u12 0 0 0 ⟨#[]⟩ ⟨#[]⟩ [23, 26, 27, 28, 29, 30, 31, 32, 33, 34, 35, 36, 37, 38, 39, 40, 41, 42, 43, 44, 45, 46])) (L' := L9 [10, 13, 14, 15, 16, 17, 18, 19, 20, 21, 22, 23, 24, 25, 26, 27, 28, 29, 30, 31, 32, 33]) 12 (d := some 25) (v := .iface 9 (.string x)) (by kernel_rfl) (by kernel_rfl) sel9_3 (by kernel_rfl) (by kernel_rfl) (fun c a w => C.hQ c a (some 25) _ w) (by kernel_rfl) (fun _ _ => by kernel_rfl) hS (by kernel_rfl) (by kernel_rfl) ?_
  refine held_at9 (a' := (Fr9 p k mu he ms tk x y u10 u11 u12 0 0 0 ⟨#[]⟩ ⟨#[]⟩ [23, 27, 28, 29, 30, 31, 32, 33, 34, 35, 36, 37, 38, 39, 40, 41, 42, 43, 44, 45, 46])) (L' := L9 [10, 14, 15, 16, 17, 18, 19, 20, 21, 22, 23, 24, 25, 26, 27, 28, 29, 30, 31, 32, 33]) 13 (d := some 26) (v := .string y) (by kernel_rfl) (by kernel_rfl) sel9_3 (by kernel_rfl) (by kernel_rfl) (fun c a w => C.hQ c a (some 26) _ w) (by kernel_rfl) (fun _ _ => by kernel_rfl) hS (by kernel_rfl) (by kernel_rfl) ?_
  refine held_at9 (a' := (Fr9 p k mu he ms tk x y u10 u11 u12 0 0 0 ⟨#[]⟩ ⟨#[]⟩ [23, 28, 29, 30, 31, 32, 33, 34, 35, 36, 37, 38, 39, 40, 41, 42, 43, 44, 45, 46])) (L' := L9 [10, 15, 16, 17, 18, 19, 20, 21, 22, 23, 24, 25, 26, 27, 28, 29, 30, 31, 32, 33]) 14 (d := some 27) (v := .iface 9 (.string y)) (by kernel_rfl) (by kernel_rfl) sel9_3 (by kernel_rfl) (by kernel_rfl) (fun c a w => C.hQ c a (some 27) _ w) (by kernel_rfl) (fun _ _ => by kernel_rfl) hS (by kernel_rfl) (by kernel_rfl) ?_
  refine held_at9 (a' := (Fr9 p k mu he ms tk x y u10 u11 u12 0 0 0 ⟨#[]⟩ ⟨#[]⟩ [23, 28, 29, 31, 32, 33, 34, 35, 36, 37, 38, 39, 40, 41, 42, 43, 44, 45, 46])) (L' := L9 [10, 15, 16, 18, 19, 20, 21, 22, 23, 24, 25, 26, 27, 28, 29, 30, 31, 32, 33]) 17 (d := some 30) (v := .string y) (by kernel_rfl) (by kernel_rfl) sel9_3 (by kernel_rfl) (by kernel_rfl) (fun c a w => C.hQ c a (some 30) _ w) (by kernel_rfl) (fun _ _ => by kernel_rfl) hS (by kernel_rfl) (by kernel_rfl) ?_
  refine held_at9 (a' := (Fr9 p k mu he ms tk x y u10 u11 u12 0 0 0 ⟨#[]⟩ ⟨#[]⟩ [23, 28, 29, 32, 33, 34, 35, 36, 37, 38, 39, 40, 41, 42, 43, 44, 45, 46])) (L' := L9 [10, 15, 16, 19, 20, 21, 22, 23, 24, 25, 26, 27, 28, 29, 30, 31, 32, 33]) 18 (d := some 31) (v := .iface 9 (.string y)) (by kernel_rfl) (by kernel_rfl) sel9_3 (by kernel_rfl) (by kernel_rfl) (fun c a w => C.hQ c a (some 31) _ w) (by kernel_rfl) (fun _ _ => by kernel_rfl) hS (by kernel_rfl) (by kernel_rfl) ?_
  refine held_at9 (a' := (Fr9 p k mu he ms tk x y u10 u11 u12 0 0 0 ⟨#[]⟩ ⟨#[]⟩ [23, 28, 29, 33, 34, 35, 36, 37, 38, 39, 40, 41, 42, 43, 44, 45, 46])) (L' := L9 [10, 15, 16, 20, 21, 22, 23, 24, 25, 26, 27, 28, 29, 30, 31, 32, 33]) 19 (d := some 32) (v := .string x) (by kernel_rfl) (by kernel_rfl) sel9_3 (by kernel_rfl) (by kernel_rfl) (fun c a w => C.hQ c a (some 32) _ w) (by kernel_rfl) (fun _ _ => by kernel_rfl) hS (by kernel_rfl) (by kernel_rfl) ?_
  refine held_at9 (a' := (Fr9 p k mu he ms tk x y u10 u11 u12 0 0 0 ⟨#[]⟩ ⟨#[]⟩ [23, 28, 29, 34, 35, 36, 37, 38, 39, 40, 41, 42, 43, 44, 45, 46])) (L' := L9 [10, 15, 16, 21, 22, 23, 24, 25, 26, 27, 28, 29, 30, 31, 32, 33]) 20 (d := some 33) (v := .iface 9 (.string x)) (by kernel_rfl) (by kernel_rfl) sel9_3 (by kernel_rfl) (by kernel_rfl) (fun c a w => C.hQ c a (some 33) _ w) (by kernel_rfl) (fun _ _ => by kernel_rfl) hS (by kernel_rfl) (by kernel_rfl) ?_
  refine held_at9 (a' := (Fr9 p k mu he ms tk x y u10 u11 u12 0 0 0 ⟨#[]⟩ ⟨#[]⟩ [23, 28, 29, 35, 36, 37, 38, 39, 40, 41, 42, 43, 44, 45, 46])) (L' := L9 [10, 15, 16, 22, 23, 24, 25, 26, 27, 28, 29, 30, 31, 32, 33]) 21 (d := some 34) (v := .string y) (by kernel_rfl) (by kernel_rfl) sel9_3 (by kernel_rfl) (by kernel_rfl) (fun c a w => C.hQ c a (some 34) _ w) (by kernel_rfl) (fun _ _ => by kernel_rfl) hS (by kernel_rfl) (by kernel_rfl) ?_
  refine held_at9 (a' := (Fr9 p k mu he ms tk x y u10 u11 u12 0 0 0 ⟨#[]⟩ ⟨#[]⟩ [23, 28, 29, 36, 37, 38, 39, 40, 41, 42, 43, 44, 45, 46])) (L' := L9 [10, 15, 16, 23, 24, 25, 26, 27, 28, 29, 30, 31, 32, 33]) 22 (d := some 35) (v := .iface 9 (.string y)) (by kernel_rfl) (by kernel_rfl) sel9_3 (by kernel_rfl) (by kernel_rfl) (fun c a w => C.hQ c a (some 35) _ w) (by kernel_rfl) (fun _ _ => by kernel_rfl) hS (by kernel_rfl) (by kernel_rfl) ?_
  refine held_at9 (a' := (Fr9 p k mu he ms tk x y u10 u11 u12 0 0 0 ⟨#[]⟩ ⟨#[]⟩ [23, 28, 29, 37, 38, 39, 40, 41, 42, 43, 44, 45, 46])) (L' := L9 [10, 15, 16, 24, 25, 26, 27, 28, 29, 30, 31, 32, 33]) 23 (d := some 36) (v := .string x) (by kernel_rfl) (by kernel_rfl) sel9_3 (by kernel_rfl) (by kernel_rfl) (fun c a w => C.hQ c a (some 36) _ w) (by kernel_rfl) (fun _ _ => by kernel_rfl) hS (by kernel_rfl) (by kernel_rfl) ?_
  refine held_at9 (a' := (Fr9 p k mu he ms tk x y u10 u11 u12 0 0 0 ⟨#[]⟩ ⟨#[]⟩ [23, 28, 29, 38, 39, 40, 41, 42, 43, 44, 45, 46])) (L' := L9 [10, 15, 16, 25, 26, 27, 28, 29, 30, 31, 32, 33]) 24 (d := some 37) (v := .iface 9 (.string x)) (by kernel_rfl) (by kernel_rfl) sel9_3 (by kernel_rfl) (by kernel_rfl) (fun c a w => C.hQ c a (some 37) _ w) (by kernel_rfl) (fun _ _ => by kernel_rfl) hS (by kernel_rfl) (by kernel_rfl) ?_
  refine held_at9 (a' := (Fr9 p k mu he ms tk x y u10 u11 u12 0 0 0 ⟨#[]⟩ ⟨#[]⟩ [23, 28, 29, 39, 40, 41, 42, 43, 44, 45, 46])) (L' := L9 [10, 15, 16, 26, 27, 28, 29, 30, 31, 32, 33]) 25 (d := some 38) (v := .string y) (by kernel_rfl) (by kernel_rfl) sel9_3 (by kernel_rfl) (by kernel_rfl) (fun c a w => C.hQ c a (some 38) _ w) (by kernel_rfl) (fun _ _ => by kernel_rfl) hS (by kernel_rfl) (by kernel_rfl) ?_
  refine held_at9 (a' := (Fr9 p k mu he ms tk x y u10 u11 u12 0 0 0 ⟨#[]⟩ ⟨#[]⟩ [23, 28, 29, 40, 41, 42, 43, 44, 45, 46])) (L' := L9 [10, 15, 16, 27, 28, 29, 30, 31, 32, 33]) 26 (d := some 39) (v := .iface 9 (.string y)) (by kernel_rfl) (by kernel_rfl) sel9_3 (by kernel_rfl) (by kernel_rfl) (fun c a w => C.hQ c a (some 39) _ w) (by kernel_rfl) (fun _ _ => by kernel_rfl) hS (by kernel_rfl) (by kernel_rfl) ?_
  refine held_at9 (a' := (Fr9 p k mu he ms tk x y u10 u11 u12 0 0 0 ⟨#[]⟩ ⟨#[]⟩ [23, 28, 29, 41, 42, 43, 44, 45, 46])) (L' := L9 [10, 15, 16, 28, 29, 30, 31, 32, 33]) 27 (d := some 40) (v := .string x) (by kernel_rfl) (by kernel_rfl) sel9_3 (by kernel_rfl) (by kernel_rfl) (fun c a w => C.hQ c a (some 40) _ w) (by kernel_rfl) (fun _ _ => by kernel_rfl) hS (by kernel_rfl) (by kernel_rfl) ?_
  refine held_at9 (a' := (Fr9 p k mu he ms tk x y u10 u11 u12 0 0 0 ⟨#[]⟩ ⟨#[]⟩ [23, 28, 29, 42, 43, 44, 45, 46])) (L' := L9 [10, 15, 16, 29, 30, 31, 32, 33]) 28 (d := some 41) (v := .iface 9 (.string x)) (by kernel_rfl) (by kernel_rfl) sel9_3 (by kernel_rfl) (by kernel_rfl) (fun c a w => C.hQ c a (some 41) _ w) (by kernel_rfl) (fun _ _ => by kernel_rfl) hS (by kernel_rfl) (by kernel_rfl) ?_
  exact st9_10151629 C W hb

end Go.Proofs.YtidicogmfpfibacFmt
