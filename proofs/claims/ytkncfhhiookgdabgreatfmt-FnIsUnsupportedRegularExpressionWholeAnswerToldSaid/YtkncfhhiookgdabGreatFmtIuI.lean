import Derived.Test.YtkncfhhiookgdabGreatFmtKit
import Derived.Test.YtkncfhhiookgdabGreatFmtIuF
namespace Go.Proofs.YtkncfhhiookgdabGreatFmt
open Go.ChangeShapes Go.WideShapes Go.ChangeAt Go.RowKit
set_option linter.unusedVariables false
set_option maxRecDepth 100000
set_option maxHeartbeats 2000000

open Go.MuLone Go.Extern.Stop Go.Stop Go.Extern
noncomputable def rg73 : List Oper := rgAt Tryz.f16 73
theorem sel73 : Region.noSelect rg73.toArray = true := by kernel_rfl
noncomputable def noteT : ByteArray := match (rg73.getD 14 noOper).op with | .build _ #[(_, .const (.string t))] => t | _ => ⟨#[]⟩
def L73 (l : List Nat) : Array Bool := ((List.range 17).map fun i => !(l.contains i)).toArray
def Pre73 (u : Nat → Value) (p b10 : Nat) (tx : ByteArray) : List Value := (List.range 259).map fun i => if i = 0 then .pointer (some ⟨p, 0, none⟩) else if i = 9 then .string tx else if i = 10 then .pointer (some ⟨b10, 0, none⟩) else if i = 24 then .string whereT else u i
noncomputable def Vs73 (u : Nat → Value) (p b10 k mu he ms : Nat) (x : Int) (tx : ByteArray) (g12 g15 : Nat) (t13 : ByteArray) : List Value := [.pointer (some ⟨p, 0, none⟩), .pointer (some ⟨p, 0, none⟩), .pointer (some ⟨p, 51, none⟩), .agg (logV k mu he ms), .pointer (some ⟨p, 0, none⟩), .pointer (some ⟨p, 0, none⟩), .pointer (some ⟨p, 67, none⟩), .agg #[.int .i32 x, .int .i32 1], .string tx, .iface 9 (.string tx), .string whereT, .iface 9 (.string whereT), .slice (some ⟨g12, 0, none⟩) 2 2, .string t13, .agg #[.nilIface, .pointer none, .string noteT, .bool false], .slice (some ⟨g15, 0, none⟩) 1 1, .tuple #[]]
noncomputable def Fr73 (u : Nat → Value) (p b10 k mu he ms : Nat) (x : Int) (tx : ByteArray) (g12 g15 : Nat) (t13 : ByteArray) (l : List Nat) : Act := ⟨(Pre73 u p b10 tx ++ ((Vs73 u p b10 k mu he ms x tx g12 g15 t13).zipIdx.map fun z => if l.contains (z.2 + 259) then undef else z.1)).toArray, []⟩
section
variable {P : Program} {Q : Exit → Act → World → Prop} {S : World → Prop} {w : World}
theorem held_at9 {fuel : Nat} {a a' : Act} {l : List Oper} {L L' : Array Bool} (i : Nat) {d : Option Nat} {v : Value} (ho : l.toArray[i]? = some (l.getD i noOper)) (hd : (l.getD i noOper).dst = d) (hsel : Region.noSelect l.toArray = true) (hf : Region.free .any l.toArray L i = true) (hr : (Region.ready .any l.toArray L).contains i = true)
    (hQ : ∀ c a w, Q (.panic c) (a.put d v) w → Q (.panic c) a w) (hw : Region.wanted (l.getD i noOper) (yielded l.toArray a.tmps) = true)
    (hrun : ∀ w, S w → (execOp a.eval (l.getD i noOper)).run P w = .ok (.value v) w) (hS : S w) (ha : a.put d v = a') (hL : L.setIfInBounds i true = L') (h : wpAnyH P .any l.toArray Q S fuel L' a' w) : wpAnyH P .any l.toArray Q S (fuel + 1) L a w := by
  subst hL
  exact held_at i ho hd hsel hf hr hQ hw hrun hS ha h
theorem held_of9 {fuel : Nat} {a : Act} {l : List Oper} {L : Array Bool} (rs : List Nat) (hr : Region.ready .any l.toArray L = rs) (hne : rs ≠ []) (h : ∀ i ∈ rs, wpOp P l.toArray Q i (fun a' w' => S w' ∧ wpAnyH P .any l.toArray Q S fuel (L.setIfInBounds i true) a' w') a w) : wpAnyH P .any l.toArray Q S (fuel + 1) L a w :=
  wpAnyH_all hr hne h
theorem op9 {fuel : Nat} {a : Act} {l : List Oper} {L L' : Array Bool} (i : Nat) (ho : l.toArray[i]? = some (l.getD i noOper)) (hw : Region.wanted (l.getD i noOper) (yielded l.toArray a.tmps) = true) (hL : L.setIfInBounds i true = L')
    (h : (l.getD i noOper).wp P a w (fun a' w' => S w' ∧ wpAnyH P .any l.toArray Q S fuel L' a' w') Q) : wpOp P l.toArray Q i (fun a' w' => S w' ∧ wpAnyH P .any l.toArray Q S fuel (L.setIfInBounds i true) a' w') a w := by
  subst hL
  exact held_op ho hw h
theorem run_callF {a : Act} {o : Oper} {c : Call} {d : Deferred} {f : FuncId} {args : Array Value} {w' : World} {v : Value} (ho : o.op = .call c) (hr : (resolve a.eval c o.type).run P w = .ok d w) (hi : invoke d.target d.args = callFunc f args) (h : (callFunc f args).run P w = .ok (.value v) w') : (execOp a.eval o).run P w = .ok (.value v) w' := by
  unfold execOp
  rw [ho]
  simp only [Sem.run_bind, hr, Result.andThen_ok, hi, h]
end
def S73 (p b10 k mu he ms : Nat) (x : Int) (cs : Array Value) (W : World) : Prop := RowAt W p cs 162 ∧ (cs.toList.drop 51).take (logV k mu he ms).toList.length = (logV k mu he ms).toList ∧ RowAt W b10 #[.int .i32 x, .int .i32 1] 61
theorem S73.below {p b10 k mu he ms : Nat} {x : Int} {cs : Array Value} {W W' : World} (h : S73 p b10 k mu he ms x cs W) (hb : Below W.heap.size W W') : S73 p b10 k mu he ms x cs W' := ⟨h.1.below hb h.1.lt, h.2.1, h.2.2.below hb h.2.2.lt⟩
def r12 (tx : ByteArray) : Array Value := #[.iface 9 (.string tx), .iface 9 (.string whereT)]
theorem ld_mid {P : Program} {w : World} {p : Nat} {cs : Array Value} {t : TypeId} (h : RowAt w p cs t) (T off : Nat) (d : TypeDesc) (vs : List Value) (hs : (cs.toList.drop off).take vs.length = vs) (hu : P.underlying T = some d) (hd : d.isRow = true)
    (hi : (P.info? T).map (·.size) = some vs.length) : (loadVar T ⟨p, off, none⟩).run P w = .ok (.agg vs.toArray) w :=
  run_loadVar_mid w p off T vs d (fun j v hv => by
    rw [← hs, List.getElem?_take] at hv
    split at hv
    · rw [List.getElem?_drop] at hv
      exact h.cellv (by simpa using hv)
    · cases hv) hu hd hi
/-- What the region needs of its beginning, and of what follows it. -/
structure Ctx73 (F : Interp) (Q : Exit → Act → World → Prop) (u : Nat → Value) (p b10 k mu he ms : Nat) (x : Int) (tx : ByteArray) (cs : Array Value) (B : Nat) (v : Value) (n : Nat) (xs : List Value) (fl : Bool) (W0 : World) : Prop where
  hQ : ∀ c a d v w, Q (.panic c) (a.put d v) w → Q (.panic c) a w
  hF : F.answers W0.tape
  H : LG B k mu he ms 0 v n xs fl W0
  hn : n ≤ 100000
  hS : S73 p b10 k mu he ms x cs W0
  c76 : cs[76]? = some (.bool false)
  hend : ∀ g12 g15 t13 W', Added B k mu he ms 0 n (xs ++ msgV 4 32 (.slice (some ⟨g15, 0, none⟩) 1 1) (.pointer none) t13) fl W0 (.returned (.tuple #[])) W' → Q .normal (Fr73 u p b10 k mu he ms x tx g12 g15 t13 []) W'
theorem Ctx73.at {F : Interp} {Q : Exit → Act → World → Prop} {u : Nat → Value} {p b10 k mu he ms : Nat} {x : Int} {tx : ByteArray} {cs : Array Value} {B : Nat} {v : Value} {n : Nat} {xs : List Value} {fl : Bool} {W0 W : World} (C : Ctx73 F Q u p b10 k mu he ms x tx cs B v n xs fl W0) (bl : Below W0.heap.size W0 W) : S73 p b10 k mu he ms x cs W ∧ F.answers W.tape :=
  ⟨C.hS.below bl, bl.tape ▸ C.hF⟩
set_option maxHeartbeats 4000000 in
theorem st73_ {F : Interp} {Q : Exit → Act → World → Prop} {u : Nat → Value} {p b10 k mu he ms : Nat} {x : Int} {tx : ByteArray} {cs : Array Value} {B : Nat} {v : Value} {n : Nat} {xs : List Value} {fl : Bool} {W0 : World} (C : Ctx73 F Q u p b10 k mu he ms x tx cs B v n xs fl W0) (g12 g15 : Nat) (t13 : ByteArray) (W : World) (bl : Below W0.heap.size W0 W) : wpAnyH Tryz.prog .any rg73.toArray Q (S73 p b10 k mu he ms x cs) 1 (L73 [16]) (Fr73 u p b10 k mu he ms x tx g12 g15 t13 [275]) W := by
  have hS2 := (C.at bl).1
  refine held_of9 [16] (by kernel_rfl) (by decide) (List.forall_mem_singleton.2 ?_)
  refine op9 (L' := L73 []) 16 (by kernel_rfl) (by kernel_rfl) (by kernel_rfl) ?_
  refine wp_enter (d := some 275) (f := 32) (args := #[.agg (logV k mu he ms), .int .u8 32, .int .u8 4, .pointer (some ⟨p, 67, none⟩), .agg #[.int .i32 x, .int .i32 1], .string t13, .slice (some ⟨g15, 0, none⟩) 1 1]) (by kernel_rfl) (by kernel_rfl) ?_
  refine (addid32 B k mu he ms v n xs fl W (C.H.later bl) p 67 x 1 t13 _ 1 1 C.hn (hS2.1.cellv C.c76) hS2.1.lt).mono ?_
  rintro e1 w1 ⟨rfl, v1, h1, h2, h3⟩
  refine ⟨_, rfl, ⟨h2 _ _ _ (by decide) (by decide) (by decide) (by decide) hS2.1, hS2.2.1, h2 _ _ _ (by decide) (by decide) (by decide) (by decide) hS2.2.2⟩, ?_⟩
  rw [show (Fr73 u p b10 k mu he ms x tx g12 g15 t13 [275]).put (some 275) (.tuple #[]) = (Fr73 u p b10 k mu he ms x tx g12 g15 t13 []) from by kernel_rfl]
  exact ⟨by kernel_rfl, C.hend g12 g15 t13 w1 ⟨rfl, v1, h1, (Kp.below bl).trans h2, (bl.mono C.H.hB).trans h3⟩⟩
set_option maxHeartbeats 4000000 in
theorem st73_15 {F : Interp} {Q : Exit → Act → World → Prop} {u : Nat → Value} {p b10 k mu he ms : Nat} {x : Int} {tx : ByteArray} {cs : Array Value} {B : Nat} {v : Value} {n : Nat} {xs : List Value} {fl : Bool} {W0 : World} (C : Ctx73 F Q u p b10 k mu he ms x tx cs B v n xs fl W0) (g12 : Nat) (t13 : ByteArray) (W : World) (bl : Below W0.heap.size W0 W) : wpAnyH Tryz.prog .any rg73.toArray Q (S73 p b10 k mu he ms x cs) 2 (L73 [15, 16]) (Fr73 u p b10 k mu he ms x tx g12 0 t13 [274, 275]) W := by
  have hA := C.at bl
  refine held_of9 [15] (by kernel_rfl) (by decide) ?_
  intro i hi
  simp only [List.mem_cons, List.not_mem_nil, or_false] at hi
  subst hi
  · refine op9 (L' := L73 [16]) 15 (by kernel_rfl) (by kernel_rfl) (by kernel_rfl) ?_
    refine wp_value (d := some 274) (v := .slice (some ⟨W.heap.size, 0, none⟩) 1 1) (w' := W.alloc (.cells #[.nilIface, .pointer none, .string noteT, .bool false] 176)) (by kernel_rfl) (by kernel_rfl) ?_
    have hb : Below W.heap.size W (W.alloc (.cells #[.nilIface, .pointer none, .string noteT, .bool false] 176)) := (Below.refl _ _).alloc (Nat.le_refl _) _
    have hr : RowAt (W.alloc (.cells #[.nilIface, .pointer none, .string noteT, .bool false] 176)) W.heap.size #[.nilIface, .pointer none, .string noteT, .bool false] 176 := RowAt.new W _ _
    have bl1 := bl.trans (hb.mono bl.size)
    obtain ⟨b, hbe⟩ : ∃ b, b = W.heap.size := ⟨_, rfl⟩
    rw [← hbe] at hr ⊢
    refine ⟨(C.at bl1).1, ?_⟩
    rw [show (Fr73 u p b10 k mu he ms x tx g12 0 t13 [274, 275]).put (some 274) (.slice (some ⟨b, 0, none⟩) 1 1) = (Fr73 u p b10 k mu he ms x tx g12 b t13 [275]) from by kernel_rfl]
    exact st73_ C g12 b t13 _ bl1
set_option maxHeartbeats 4000000 in
theorem st73_13 {F : Interp} {Q : Exit → Act → World → Prop} {u : Nat → Value} {p b10 k mu he ms : Nat} {x : Int} {tx : ByteArray} {cs : Array Value} {B : Nat} {v : Value} {n : Nat} {xs : List Value} {fl : Bool} {W0 : World} (C : Ctx73 F Q u p b10 k mu he ms x tx cs B v n xs fl W0) (g12 : Nat) (g15 : Nat) (W : World) (bl : Below W0.heap.size W0 W) (h12 : RowAt W g12 (r12 tx) 20) : wpAnyH Tryz.prog .any rg73.toArray Q (S73 p b10 k mu he ms x cs) 2 (L73 [13, 16]) (Fr73 u p b10 k mu he ms x tx g12 g15 ⟨#[]⟩ [272, 275]) W := by
  have hA := C.at bl
  refine held_of9 [13] (by kernel_rfl) (by decide) ?_
  intro i hi
  simp only [List.mem_cons, List.not_mem_nil, or_false] at hi
  subst hi
  · refine op9 (L' := L73 [16]) 13 (by kernel_rfl) (by kernel_rfl) (by kernel_rfl) ?_
    obtain ⟨t, ht⟩ := spS F g12 tx whereT W hA.2 (h12.cellv (j := 0) rfl) (h12.cellv (j := 1) rfl)
    refine wp_value (d := some 272) (v := .string t) (by kernel_rfl) (run_callF (c := ⟨.value (.func 30), #[.const (.string fmS), .tmp 271], #[9, 331]⟩) (d := ⟨.fn (.func 30) #[], #[.string fmS, .slice (some ⟨g12, 0, none⟩) 2 2]⟩) (f := 30) (args := #[.string fmS, .slice (some ⟨g12, 0, none⟩) 2 2]) (by kernel_rfl) (by kernel_rfl) (by kernel_rfl) ht) ?_
    have hb : Below W.heap.size W W.drew := below_drewN (Below.refl _ _) 1
    have bl1 := bl.trans (hb.mono bl.size)
    refine ⟨(C.at bl1).1, ?_⟩
    rw [show (Fr73 u p b10 k mu he ms x tx g12 g15 ⟨#[]⟩ [272, 275]).put (some 272) (.string t) = (Fr73 u p b10 k mu he ms x tx g12 g15 t [275]) from by kernel_rfl]
    exact st73_ C g12 g15 t _ bl1
set_option maxHeartbeats 4000000 in
theorem st73_1315 {F : Interp} {Q : Exit → Act → World → Prop} {u : Nat → Value} {p b10 k mu he ms : Nat} {x : Int} {tx : ByteArray} {cs : Array Value} {B : Nat} {v : Value} {n : Nat} {xs : List Value} {fl : Bool} {W0 : World} (C : Ctx73 F Q u p b10 k mu he ms x tx cs B v n xs fl W0) (g12 : Nat) (W : World) (bl : Below W0.heap.size W0 W) (h12 : RowAt W g12 (r12 tx) 20) : wpAnyH Tryz.prog .any rg73.toArray Q (S73 p b10 k mu he ms x cs) 3 (L73 [13, 15, 16]) (Fr73 u p b10 k mu he ms x tx g12 0 ⟨#[]⟩ [272, 274, 275]) W := by
  have hA := C.at bl
  refine held_of9 [13, 15] (by kernel_rfl) (by decide) ?_
  intro i hi
  simp only [List.mem_cons, List.not_mem_nil, or_false] at hi
  rcases hi with rfl | rfl
  · refine op9 (L' := L73 [15, 16]) 13 (by kernel_rfl) (by kernel_rfl) (by kernel_rfl) ?_
    obtain ⟨t, ht⟩ := spS F g12 tx whereT W hA.2 (h12.cellv (j := 0) rfl) (h12.cellv (j := 1) rfl)
    refine wp_value (d := some 272) (v := .string t) (by kernel_rfl) (run_callF (c := ⟨.value (.func 30), #[.const (.string fmS), .tmp 271], #[9, 331]⟩) (d := ⟨.fn (.func 30) #[], #[.string fmS, .slice (some ⟨g12, 0, none⟩) 2 2]⟩) (f := 30) (args := #[.string fmS, .slice (some ⟨g12, 0, none⟩) 2 2]) (by kernel_rfl) (by kernel_rfl) (by kernel_rfl) ht) ?_
    have hb : Below W.heap.size W W.drew := below_drewN (Below.refl _ _) 1
    have bl1 := bl.trans (hb.mono bl.size)
    refine ⟨(C.at bl1).1, ?_⟩
    rw [show (Fr73 u p b10 k mu he ms x tx g12 0 ⟨#[]⟩ [272, 274, 275]).put (some 272) (.string t) = (Fr73 u p b10 k mu he ms x tx g12 0 t [274, 275]) from by kernel_rfl]
    exact st73_15 C g12 t _ bl1
  · refine op9 (L' := L73 [13, 16]) 15 (by kernel_rfl) (by kernel_rfl) (by kernel_rfl) ?_
    refine wp_value (d := some 274) (v := .slice (some ⟨W.heap.size, 0, none⟩) 1 1) (w' := W.alloc (.cells #[.nilIface, .pointer none, .string noteT, .bool false] 176)) (by kernel_rfl) (by kernel_rfl) ?_
    have hb : Below W.heap.size W (W.alloc (.cells #[.nilIface, .pointer none, .string noteT, .bool false] 176)) := (Below.refl _ _).alloc (Nat.le_refl _) _
    have hr : RowAt (W.alloc (.cells #[.nilIface, .pointer none, .string noteT, .bool false] 176)) W.heap.size #[.nilIface, .pointer none, .string noteT, .bool false] 176 := RowAt.new W _ _
    have bl1 := bl.trans (hb.mono bl.size)
    obtain ⟨b, hbe⟩ : ∃ b, b = W.heap.size := ⟨_, rfl⟩
    rw [← hbe] at hr ⊢
    refine ⟨(C.at bl1).1, ?_⟩
    rw [show (Fr73 u p b10 k mu he ms x tx g12 0 ⟨#[]⟩ [272, 274, 275]).put (some 274) (.slice (some ⟨b, 0, none⟩) 1 1) = (Fr73 u p b10 k mu he ms x tx g12 b ⟨#[]⟩ [272, 275]) from by kernel_rfl]
    exact st73_13 C g12 b _ bl1 (h12.below hb h12.lt)
set_option maxHeartbeats 4000000 in
theorem st73_1213 {F : Interp} {Q : Exit → Act → World → Prop} {u : Nat → Value} {p b10 k mu he ms : Nat} {x : Int} {tx : ByteArray} {cs : Array Value} {B : Nat} {v : Value} {n : Nat} {xs : List Value} {fl : Bool} {W0 : World} (C : Ctx73 F Q u p b10 k mu he ms x tx cs B v n xs fl W0) (g15 : Nat) (W : World) (bl : Below W0.heap.size W0 W) : wpAnyH Tryz.prog .any rg73.toArray Q (S73 p b10 k mu he ms x cs) 3 (L73 [12, 13, 16]) (Fr73 u p b10 k mu he ms x tx 0 g15 ⟨#[]⟩ [271, 272, 275]) W := by
  have hA := C.at bl
  refine held_of9 [12] (by kernel_rfl) (by decide) ?_
  intro i hi
  simp only [List.mem_cons, List.not_mem_nil, or_false] at hi
  subst hi
  · refine op9 (L' := L73 [13, 16]) 12 (by kernel_rfl) (by kernel_rfl) (by kernel_rfl) ?_
    refine wp_value (d := some 271) (v := .slice (some ⟨W.heap.size, 0, none⟩) 2 2) (w' := W.alloc (.cells (r12 tx) 20)) (by kernel_rfl) (by kernel_rfl) ?_
    have hb : Below W.heap.size W (W.alloc (.cells (r12 tx) 20)) := (Below.refl _ _).alloc (Nat.le_refl _) _
    have hr : RowAt (W.alloc (.cells (r12 tx) 20)) W.heap.size (r12 tx) 20 := RowAt.new W _ _
    have bl1 := bl.trans (hb.mono bl.size)
    obtain ⟨b, hbe⟩ : ∃ b, b = W.heap.size := ⟨_, rfl⟩
    rw [← hbe] at hr ⊢
    refine ⟨(C.at bl1).1, ?_⟩
    rw [show (Fr73 u p b10 k mu he ms x tx 0 g15 ⟨#[]⟩ [271, 272, 275]).put (some 271) (.slice (some ⟨b, 0, none⟩) 2 2) = (Fr73 u p b10 k mu he ms x tx b g15 ⟨#[]⟩ [272, 275]) from by kernel_rfl]
    exact st73_13 C b g15 _ bl1 hr
set_option maxHeartbeats 4000000 in
theorem st73_121315 {F : Interp} {Q : Exit → Act → World → Prop} {u : Nat → Value} {p b10 k mu he ms : Nat} {x : Int} {tx : ByteArray} {cs : Array Value} {B : Nat} {v : Value} {n : Nat} {xs : List Value} {fl : Bool} {W0 : World} (C : Ctx73 F Q u p b10 k mu he ms x tx cs B v n xs fl W0) (W : World) (bl : Below W0.heap.size W0 W) : wpAnyH Tryz.prog .any rg73.toArray Q (S73 p b10 k mu he ms x cs) 4 (L73 [12, 13, 15, 16]) (Fr73 u p b10 k mu he ms x tx 0 0 ⟨#[]⟩ [271, 272, 274, 275]) W := by
  have hA := C.at bl
  refine held_of9 [12, 15] (by kernel_rfl) (by decide) ?_
  intro i hi
  simp only [List.mem_cons, List.not_mem_nil, or_false] at hi
  rcases hi with rfl | rfl
  · refine op9 (L' := L73 [13, 15, 16]) 12 (by kernel_rfl) (by kernel_rfl) (by kernel_rfl) ?_
    refine wp_value (d := some 271) (v := .slice (some ⟨W.heap.size, 0, none⟩) 2 2) (w' := W.alloc (.cells (r12 tx) 20)) (by kernel_rfl) (by kernel_rfl) ?_
    have hb : Below W.heap.size W (W.alloc (.cells (r12 tx) 20)) := (Below.refl _ _).alloc (Nat.le_refl _) _
    have hr : RowAt (W.alloc (.cells (r12 tx) 20)) W.heap.size (r12 tx) 20 := RowAt.new W _ _
    have bl1 := bl.trans (hb.mono bl.size)
    obtain ⟨b, hbe⟩ : ∃ b, b = W.heap.size := ⟨_, rfl⟩
    rw [← hbe] at hr ⊢
    refine ⟨(C.at bl1).1, ?_⟩
    rw [show (Fr73 u p b10 k mu he ms x tx 0 0 ⟨#[]⟩ [271, 272, 274, 275]).put (some 271) (.slice (some ⟨b, 0, none⟩) 2 2) = (Fr73 u p b10 k mu he ms x tx b 0 ⟨#[]⟩ [272, 274, 275]) from by kernel_rfl]
    exact st73_1315 C b _ bl1 hr
  · refine op9 (L' := L73 [12, 13, 16]) 15 (by kernel_rfl) (by kernel_rfl) (by kernel_rfl) ?_
    refine wp_value (d := some 274) (v := .slice (some ⟨W.heap.size, 0, none⟩) 1 1) (w' := W.alloc (.cells #[.nilIface, .pointer none, .string noteT, .bool false] 176)) (by kernel_rfl) (by kernel_rfl) ?_
    have hb : Below W.heap.size W (W.alloc (.cells #[.nilIface, .pointer none, .string noteT, .bool false] 176)) := (Below.refl _ _).alloc (Nat.le_refl _) _
    have hr : RowAt (W.alloc (.cells #[.nilIface, .pointer none, .string noteT, .bool false] 176)) W.heap.size #[.nilIface, .pointer none, .string noteT, .bool false] 176 := RowAt.new W _ _
    have bl1 := bl.trans (hb.mono bl.size)
    obtain ⟨b, hbe⟩ : ∃ b, b = W.heap.size := ⟨_, rfl⟩
    rw [← hbe] at hr ⊢
    refine ⟨(C.at bl1).1, ?_⟩
    rw [show (Fr73 u p b10 k mu he ms x tx 0 0 ⟨#[]⟩ [271, 272, 274, 275]).put (some 274) (.slice (some ⟨b, 0, none⟩) 1 1) = (Fr73 u p b10 k mu he ms x tx 0 b ⟨#[]⟩ [271, 272, 275]) from by kernel_rfl]
    exact st73_1213 C b _ bl1
set_option maxHeartbeats 4000000 in
theorem rgn73 {F : Interp} {Q : Exit → Act → World → Prop} {u : Nat → Value} {p b10 k mu he ms : Nat} {x : Int} {tx : ByteArray} {cs : Array Value} {B : Nat} {v : Value} {n : Nat} {xs : List Value} {fl : Bool} {W0 : World} (C : Ctx73 F Q u p b10 k mu he ms x tx cs B v n xs fl W0) : (Code.region 73 rg73.toArray true).wp Tryz.prog Q (Fr73 u p b10 k mu he ms x tx 0 0 ⟨#[]⟩ [259, 260, 261, 262, 263, 264, 265, 266, 267, 268, 269, 270, 271, 272, 273, 274, 275]) W0 := by
  have hb : Below W0.heap.size W0 W0.drew := below_drewN (Below.refl _ _) 1
  obtain ⟨W, hW⟩ : ∃ W, W = W0.drew := ⟨_, rfl⟩
  refine held_begin (N := 17) (S := (S73 p b10 k mu he ms x cs)) (a' := (Fr73 u p b10 k mu he ms x tx 0 0 ⟨#[]⟩ [259, 260, 261, 262, 263, 264, 265, 266, 267, 268, 269, 270, 271, 272, 273, 274, 275])) (by kernel_rfl) (by kernel_rfl) (by kernel_rfl) (C.at hb).1 (fun hS => ?_)
  rw [show Lk 17 0 = L73 [0, 1, 2, 3, 4, 5, 6, 7, 8, 9, 10, 11, 12, 13, 14, 15, 16] from by kernel_rfl]
  rw [← hW] at hb hS ⊢
  refine held_at9 (a' := (Fr73 u p b10 k mu he ms x tx 0 0 ⟨#[]⟩ [260, 261, 262, 263, 264, 265, 266, 267, 268, 269, 270, 271, 272, 273, 274, 275])) (L' := L73 [1, 2, 3, 4, 5, 6, 7, 8, 9, 10, 11, 12, 13, 14, 15, 16]) 0 (d := some 259) (v := .pointer (some ⟨p, 0, none⟩)) (by kernel_rfl) (by kernel_rfl) sel73 (by kernel_rfl) (by kernel_rfl) (fun c a w => C.hQ c a (some 259) _ w) (by kernel_rfl) (fun _ _ => by kernel_rfl) hS (by kernel_rfl) (by kernel_rfl) ?_
  refine held_at9 (a' := (Fr73 u p b10 k mu he ms x tx 0 0 ⟨#[]⟩ [261, 262, 263, 264, 265, 266, 267, 268, 269, 270, 271, 272, 273, 274, 275])) (L' := L73 [2, 3, 4, 5, 6, 7, 8, 9, 10, 11, 12, 13, 14, 15, 16]) 1 (d := some 260) (v := .pointer (some ⟨p, 0, none⟩)) (by kernel_rfl) (by kernel_rfl) sel73 (by kernel_rfl) (by kernel_rfl) (fun c a w => C.hQ c a (some 260) _ w) (by kernel_rfl) (fun _ _ => by kernel_rfl) hS (by kernel_rfl) (by kernel_rfl) ?_
  refine held_at9 (a' := (Fr73 u p b10 k mu he ms x tx 0 0 ⟨#[]⟩ [262, 263, 264, 265, 266, 267, 268, 269, 270, 271, 272, 273, 274, 275])) (L' := L73 [3, 4, 5, 6, 7, 8, 9, 10, 11, 12, 13, 14, 15, 16]) 2 (d := some 261) (v := .pointer (some ⟨p, 51, none⟩)) (by kernel_rfl) (by kernel_rfl) sel73 (by kernel_rfl) (by kernel_rfl) (fun c a w => C.hQ c a (some 261) _ w) (by kernel_rfl) (fun _ _ => by kernel_rfl) hS (by kernel_rfl) (by kernel_rfl) ?_
  refine held_at9 (a' := (Fr73 u p b10 k mu he ms x tx 0 0 ⟨#[]⟩ [263, 264, 265, 266, 267, 268, 269, 270, 271, 272, 273, 274, 275])) (L' := L73 [4, 5, 6, 7, 8, 9, 10, 11, 12, 13, 14, 15, 16]) 3 (d := some 262) (v := .agg (logV k mu he ms)) (by kernel_rfl) (by kernel_rfl) sel73 (by kernel_rfl) (by kernel_rfl) (fun c a w => C.hQ c a (some 262) _ w) (by kernel_rfl) (fun _ hS => run_ld (T := 40) (x := .tmp 261) (by kernel_rfl) (by kernel_rfl) (ld_mid hS.1 40 51 _ (logV k mu he ms).toList hS.2.1 Tryz.underlying40 rfl (by kernel_rfl))) hS (by kernel_rfl) (by kernel_rfl) ?_
  refine held_at9 (a' := (Fr73 u p b10 k mu he ms x tx 0 0 ⟨#[]⟩ [264, 265, 266, 267, 268, 269, 270, 271, 272, 273, 274, 275])) (L' := L73 [5, 6, 7, 8, 9, 10, 11, 12, 13, 14, 15, 16]) 4 (d := some 263) (v := .pointer (some ⟨p, 0, none⟩)) (by kernel_rfl) (by kernel_rfl) sel73 (by kernel_rfl) (by kernel_rfl) (fun c a w => C.hQ c a (some 263) _ w) (by kernel_rfl) (fun _ _ => by kernel_rfl) hS (by kernel_rfl) (by kernel_rfl) ?_
  refine held_at9 (a' := (Fr73 u p b10 k mu he ms x tx 0 0 ⟨#[]⟩ [265, 266, 267, 268, 269, 270, 271, 272, 273, 274, 275])) (L' := L73 [6, 7, 8, 9, 10, 11, 12, 13, 14, 15, 16]) 5 (d := some 264) (v := .pointer (some ⟨p, 0, none⟩)) (by kernel_rfl) (by kernel_rfl) sel73 (by kernel_rfl) (by kernel_rfl) (fun c a w => C.hQ c a (some 264) _ w) (by kernel_rfl) (fun _ _ => by kernel_rfl) hS (by kernel_rfl) (by kernel_rfl) ?_
  refine held_at9 (a' := (Fr73 u p b10 k mu he ms x tx 0 0 ⟨#[]⟩ [266, 267, 268, 269, 270, 271, 272, 273, 274, 275])) (L' := L73 [7, 8, 9, 10, 11, 12, 13, 14, 15, 16]) 6 (d := some 265) (v := .pointer (some ⟨p, 67, none⟩)) (by kernel_rfl) (by kernel_rfl) sel73 (by kernel_rfl) (by kernel_rfl) (fun c a w => C.hQ c a (some 265) _ w) (by kernel_rfl) (fun _ _ => by kernel_rfl) hS (by kernel_rfl) (by kernel_rfl) ?_
  refine held_at9 (a' := (Fr73 u p b10 k mu he ms x tx 0 0 ⟨#[]⟩ [267, 268, 269, 270, 271, 272, 273, 274, 275])) (L' := L73 [8, 9, 10, 11, 12, 13, 14, 15, 16]) 7 (d := some 266) (v := .agg #[.int .i32 x, .int .i32 1]) (by kernel_rfl) (by kernel_rfl) sel73 (by kernel_rfl) (by kernel_rfl) (fun c a w => C.hQ c a (some 266) _ w) (by kernel_rfl) (fun _ hS => run_ld (T := 61) (x := .tmp 10) (by kernel_rfl) (by kernel_rfl) (run_loadVar_mid _ b10 0 61 _ _ (range_of hS.2.2) Tryz.underlying61 rfl (by kernel_rfl))) hS (by kernel_rfl) (by kernel_rfl) ?_
  refine held_at9 (a' := (Fr73 u p b10 k mu he ms x tx 0 0 ⟨#[]⟩ [268, 269, 270, 271, 272, 273, 274, 275])) (L' := L73 [9, 10, 11, 12, 13, 14, 15, 16]) 8 (d := some 267) (v := .string tx) (by kernel_rfl) (by kernel_rfl) sel73 (by kernel_rfl) (by kernel_rfl) (fun c a w => C.hQ c a (some 267) _ w) (by kernel_rfl) (fun _ _ => by kernel_rfl) hS (by kernel_rfl) (by kernel_rfl) ?_
  refine held_at9 (a' := (Fr73 u p b10 k mu he ms x tx 0 0 ⟨#[]⟩ [269, 270, 271, 272, 273, 274, 275])) (L' := L73 [10, 11, 12, 13, 14, 15, 16]) 9 (d := some 268) (v := .iface 9 (.string tx)) (by kernel_rfl) (by kernel_rfl) sel73 (by kernel_rfl) (by kernel_rfl) (fun c a w => C.hQ c a (some 268) _ w) (by kernel_rfl) (fun _ _ => by kernel_rfl) hS (by kernel_rfl) (by kernel_rfl) ?_
  refine held_at9 (a' := (Fr73 u p b10 k mu he ms x tx 0 0 ⟨#[]⟩ [270, 271, 272, 273, 274, 275])) (L' := L73 [11, 12, 13, 14, 15, 16]) 10 (d := some 269) (v := .string whereT) (by kernel_rfl) (by kernel_rfl) sel73 (by kernel_rfl) (by kernel_rfl) (fun c a w => C.hQ c a (some 269) _ w) (by kernel_rfl) (fun _ _ => by kernel_rfl) hS (by kernel_rfl) (by kernel_rfl) ?_
  refine held_at9 (a' := (Fr73 u p b10 k mu he ms x tx 0 0 ⟨#[]⟩ [271, 272, 273, 274, 275])) (L' := L73 [12, 13, 14, 15, 16]) 11 (d := some 270) (v := .iface 9 (.string whereT)) (by kernel_rfl) (by kernel_rfl) sel73 (by kernel_rfl) (by kernel_rfl) (fun c a w => C.hQ c a (some 270) _ w) (by kernel_rfl) (fun _ _ => by kernel_rfl) hS (by kernel_rfl) (by kernel_rfl) ?_
  refine held_at9 (a' := (Fr73 u p b10 k mu he ms x tx 0 0 ⟨#[]⟩ [271, 272, 274, 275])) (L' := L73 [12, 13, 15, 16]) 14 (d := some 273) (v := .agg #[.nilIface, .pointer none, .string noteT, .bool false]) (by kernel_rfl) (by kernel_rfl) sel73 (by kernel_rfl) (by kernel_rfl) (fun c a w => C.hQ c a (some 273) _ w) (by kernel_rfl) (fun _ _ => by kernel_rfl) hS (by kernel_rfl) (by kernel_rfl) ?_
  exact st73_121315 C W hb
/-- The region from any frame that holds what it needs. -/
theorem use73 {F : Interp} {Q : Exit → Act → World → Prop} {a : Act} {W0 : World} (p b10 k mu he ms : Nat) (f x : Int) (tx : ByteArray) (B : Nat) (v : Value) (n : Nat) (xs : List Value) (fl : Bool)
    (hconv : a = Fr73 (fun i => a.tmps.getD i undef) p b10 k mu he ms x tx 0 0 ⟨#[]⟩ [259, 260, 261, 262, 263, 264, 265, 266, 267, 268, 269, 270, 271, 272, 273, 274, 275]) (hQ : ∀ c a d v w, Q (.panic c) (a.put d v) w → Q (.panic c) a w) (hF : F.answers W0.tape) (H : LG B k mu he ms 0 v n xs fl W0) (hn : n ≤ 100000)
    (hP : PX p k mu he ms f W0) (hr : RowAt W0 b10 #[.int .i32 x, .int .i32 1] 61)
    (hend : ∀ a' W' v' n' xs', a'.tmps.getD 6 undef = a.tmps.getD 6 undef → a'.tmps.getD 7 undef = a.tmps.getD 7 undef → a'.tmps.getD 8 undef = a.tmps.getD 8 undef → a'.defers = [] → LG B k mu he ms 0 v' n' xs' fl W' → Kp W0 W' → Below B W0 W' → Q .normal a' W') :
    (Code.region 73 rg73.toArray true).wp Tryz.prog Q a W0 := by
  obtain ⟨cs, r, h1, h2, _⟩ := hP
  rw [hconv]
  exact rgn73 (F := F) (cs := cs) (B := B) (v := v) (n := n) (xs := xs) (fl := fl) ⟨hQ, hF, H, hn, ⟨r, h1, hr⟩, h2, fun g12 g15 t13 W' hA => by
    obtain ⟨_, v1, l1, k1, b1⟩ := hA
    exact hend _ W' v1 _ _ (by kernel_rfl) (by kernel_rfl) (by kernel_rfl) (by kernel_rfl) l1 k1 b1⟩

end Go.Proofs.YtkncfhhiookgdabGreatFmt
