import Derived.Test.YtkncfhhiookgdacDoorKit
import Derived.Test.YtkncfhhiookgdacDoorIpA
import Derived.Test.YtkncfhhiookgdacDoorAs
import Derived.Deep.RegionLaw
namespace Go.Proofs.YtkncfhhiookgdacDoor
open Go.ChangeShapes Go.WideShapes Go.ChangeAt Go.RowKit
set_option linter.unusedVariables false
set_option maxRecDepth 100000
set_option maxHeartbeats 2000000

open Go.Extern
/-- A known append as a step of a region that draws its order. -/
theorem step_run {P : Program} {ops : Array Oper} {o : Oper} {a : Act} {w : World} {K : Act → World → Prop} {Q : Exit → Act → World → Prop} {E : Prop} (hg : o.guard = none) (s x : Operand)
    (hop : o.op = Op.call { callee := Callee.builtin Builtin.append, args := #[s, x], argTypes := #[22, 22] }) (hty : o.type = 22) (v y v' : Value) (w' : World) (hs : a.eval s = v) (hx : a.eval x = y)
    (hrun : (Builtin.append_ #[22, 22] 22 #[v, y]).run P w = .ok v' w') (hK : K (a.put o.dst v') w') :
    if Region.wanted o (yielded ops a.tmps) = true then Oper.wp P o a w K Q else E := by
  have hw : Region.wanted o (yielded ops a.tmps) = true := by simp [Region.wanted, hg]
  rw [if_pos hw]
  unfold Oper.wp
  simp [execOp, hop, hty, resolve, invoke, builtin, hs, hx, hrun, Result.andThen]
  exact hK
/-- A part's datum: a string expression or an identifier. -/
def PD (w : World) (b0 : Nat) (d : Value) (isS : Bool) (M : Nat) : Prop :=
  (isS = true ∧ ∃ s v n x1 x2 x3 x4, d = .iface 49 (ptr s) ∧ b0 ≤ s ∧ RowAt w s #[v, x1, x2, x3, x4] 51 ∧ UW w b0 v n ∧ n ≤ M) ∨
  (isS = false ∧ ∃ q a b x y z, d = .iface 54 (ptr q) ∧ b0 ≤ q ∧ RowAt w q #[.int .u32 a, .int .u32 b, x, y, z] 59 ∧ 0 ≤ b ∧ b ≤ 4294967295)
def pv (d tl : Value) (j : Nat) : Value := if j = 0 then d else if j = 1 then .int .i32 0 else if j = 2 then .string ByteArray.empty else if j = 3 then tl else .int .i32 0
/-- A row of parts, k of them laid. -/
def PRow (w : World) (pr N k : Nat) (D T : Nat → Value) : Prop := ∃ cs, RowAt w pr cs 53 ∧ cs.size = N * 5 ∧ ∀ i, i < k → ∀ j, j < 5 → cs[i * 5 + j]? = some (pv (D i) (T i) j)
structure Parts (w : World) (b0 pr N n : Nat) (D T : Nat → Value) (S : Nat → Bool) (M : Nat) : Prop where
  row : PRow w pr N n D T
  le : n ≤ N
  base : b0 ≤ pr
  dat : ∀ i, i < n → PD w b0 (D i) (S i) M
  tail : ∀ i, i < n → ∃ l, UW w b0 (T i) l ∧ l ≤ M
theorem PRow.cell {w : World} {pr N k : Nat} {D T : Nat → Value} (h : PRow w pr N k D T) {i j : Nat} (hi : i < k) (hj : j < 5) : w.cell? ⟨pr, i * 5 + j, none⟩ = some (pv (D i) (T i) j) := by
  obtain ⟨cs, r, _, e⟩ := h
  exact r.cellv (e i hi j hj)
theorem PRow.cell0 {w : World} {pr N k : Nat} {D T : Nat → Value} (h : PRow w pr N k D T) {i : Nat} (hi : i < k) : w.cell? ⟨pr, i * 5, none⟩ = some (D i) := h.cell hi (j := 0) (by decide)
theorem PRow.lt {w : World} {pr N k : Nat} {D T : Nat → Value} (h : PRow w pr N k D T) : pr < w.heap.size := by
  obtain ⟨cs, r, _⟩ := h
  exact r.lt
theorem PRow.moved {w w' : World} {pr N k : Nat} {D T : Nat → Value} (h : PRow w pr N k D T) (ho : KO w w') : PRow w' pr N k D T := by
  obtain ⟨cs, r, e⟩ := h
  exact ⟨cs, ho _ _ _ r (by decide), e⟩
def KP (w w' : World) : Prop := ∀ g es t, RowAt w g es t → t ≠ 48 → t ≠ 53 → RowAt w' g es t
theorem KO.kp {w w' : World} (h : KO w w') : KP w w' := fun g es t r h1 _ => h g es t r h1
theorem PD.moved {w w' : World} {b0 M M' : Nat} {d : Value} {s : Bool} (h : PD w b0 d s M) (hk : K16 w w') (ho : KP w w') (hM : M ≤ M') : PD w' b0 d s M' := by
  rcases h with ⟨e, a, v, n, x1, x2, x3, x4, h1, h2, h3, h4, h5⟩ | ⟨e, q, a, b, x, y, z, h1, h2, h3, h4⟩
  · exact .inl ⟨e, a, v, n, x1, x2, x3, x4, h1, h2, ho _ _ _ h3 (by decide) (by decide), h4.moved hk, by omega⟩
  · exact .inr ⟨e, q, a, b, x, y, z, h1, h2, ho _ _ _ h3 (by decide) (by decide), h4⟩
theorem Parts.moved {w w' : World} {b0 pr N n M M' : Nat} {D T : Nat → Value} {S : Nat → Bool} (h : Parts w b0 pr N n D T S M) (hk : K16 w w') (ho : KO w w') (hM : M ≤ M') : Parts w' b0 pr N n D T S M' :=
  ⟨h.row.moved ho, h.le, h.base, fun i hi => (h.dat i hi).moved hk ho.kp hM, fun i hi => by
    obtain ⟨l, h1, h2⟩ := h.tail i hi
    exact ⟨l, h1.moved hk, by omega⟩⟩
theorem tostr13 (t : TypeId) (a : Nat) (w : World) (h : t = 49 ∨ t = 54) : Calls Tryd.prog 13 #[.iface t (ptr a)] w fun e w' => e = .returned (.tuple #[.string ByteArray.empty, .bool false]) ∧ w = w' := by
  unfold ptr
  rcases h with rfl | rfl <;> (
    go_enter Tryd.func13, Tryd.ntmps13
    go_wp2_with fail
    go_ret2
    exact ⟨rfl, rfl⟩)
theorem info53 : (Tryd.prog.info? 53).map (fun i => (i.zero, i.size, i.bytes)) = some (some (.agg #[.nilIface, .int .i32 0, .string ByteArray.empty, .slice none 0 0, .int .i32 0]), 5, 72) := by kernel_rfl
theorem UW.sl {w : World} {b0 n : Nat} {v : Value} (h : UW w b0 v n) : ∃ o c, v = .slice o n c := by
  rcases h with ⟨rfl, rfl⟩ | ⟨g, cap, es, rfl, _⟩
  · exact ⟨_, _, rfl⟩
  · exact ⟨_, _, rfl⟩
/-- What the loop keeps. -/
structure LP (w wr : World) (b0 pr2 n k k2 M : Nat) (h : Value) (D2 T2 : Nat → Value) (res lr : Nat) (loc : Int) : Prop where
  hd : ∃ l, UW wr b0 h l ∧ l ≤ (2 * k + 1) * M
  parts : Parts wr b0 pr2 n k2 D2 T2 (fun _ => false) ((2 * k + 1) * M)
  k16 : K16 w wr
  ko : KO w wr
  below : Below b0 w wr
  resr : RowAt wr res #[.nilIface, .int .i32 0] 35
  locr : RowAt wr lr #[.int .i32 loc] 33
  pn : w.heap.size ≤ pr2
theorem LP.mv {w wr W : World} {b0 pr2 n k k2 M : Nat} {h : Value} {D2 T2 : Nat → Value} {res lr : Nat} {loc : Int} (L : LP w wr b0 pr2 n k k2 M h D2 T2 res lr loc) (hk : K16 wr W) (ho : KO wr W) (hb : Below b0 wr W) : LP w W b0 pr2 n k k2 M h D2 T2 res lr loc := by
  obtain ⟨l, h1, h2⟩ := L.hd
  exact ⟨⟨l, h1.moved hk, h2⟩, L.parts.moved hk ho (Nat.le_refl _), L.k16.trans hk, L.ko.trans ho, L.below.trans hb, ho _ _ _ L.resr (by decide), ho _ _ _ L.locr (by decide), L.pn⟩
theorem bound_le (k M a b c : Nat) (h1 : a ≤ (2 * k + 1) * M) (h2 : b ≤ M) (h3 : c ≤ M) : a + b + c ≤ (2 * (k + 1) + 1) * M := by
  have : (2 * (k + 1) + 1) * M = (2 * k + 1) * M + (M + M) := by
    rw [show 2 * (k + 1) + 1 = (2 * k + 1) + 2 from by omega, Nat.add_mul]; omega
  omega
theorem bound_mono (k M a : Nat) (h1 : a ≤ (2 * k + 1) * M) : a ≤ (2 * (k + 1) + 1) * M := by
  have := bound_le k M a 0 0 h1 (Nat.zero_le _) (Nat.zero_le _)
  omega
theorem bound_big (k M a b c : Nat) (h1 : a ≤ (2 * k + 1) * M) (h2 : b ≤ M) (h3 : c ≤ M) (hk : k < 4096) (hM : M ≤ 2097152) : a + b + c ≤ 1099511627776 := by
  have h4 : (2 * k + 1) * M ≤ 8191 * 2097152 := Nat.mul_le_mul (by omega) hM
  omega
theorem LP.next {w W : World} {b0 pr2 n k k2 M : Nat} {h h' : Value} {D2 T2 : Nat → Value} {res lr : Nat} {loc : Int} (L : LP w W b0 pr2 n k k2 M h D2 T2 res lr loc) {l' : Nat} (u : UW W b0 h' l') (hl : l' ≤ (2 * (k + 1) + 1) * M) : LP w W b0 pr2 n (k + 1) k2 M h' D2 T2 res lr loc :=
  ⟨⟨l', u, hl⟩, L.parts.moved (K16.refl _) (KO.refl _) (bound_mono k M _ (Nat.le_refl _)), L.k16, L.ko, L.below, L.resr, L.locr, L.pn⟩
theorem K16.setO {W : World} {g : Nat} {cs : Array Value} (r : RowAt W g cs 53) (o : Nat) (v : Value) : K16 W (W.setCell ⟨g, o, none⟩ v) := fun x es r' u => ⟨es, r'.set_other (row_ne r' r (by decide)) o v, rfl, u⟩
theorem KP.setO {W : World} {g : Nat} {cs : Array Value} (r : RowAt W g cs 53) (o : Nat) (v : Value) : KP W (W.setCell ⟨g, o, none⟩ v) := fun x es t r' _ h => r'.set_other (row_ne r' r h) o v
theorem PRow.setT {W : World} {pr N k j : Nat} {D T : Nat → Value} (h : PRow W pr N k D T) (hN : k ≤ N) (hj : j < k) (v : Value) : PRow (W.setCell ⟨pr, j * 5 + 3, none⟩ v) pr N k D (fun i => if i = j then v else T i) := by
  obtain ⟨cs, r, s, e⟩ := h
  refine ⟨_, r.set (j * 5 + 3) v, by simp [s], fun i hi q hq => ?_⟩
  have e1 := e i hi q hq
  rw [Array.getElem?_setIfInBounds]
  by_cases hij : i = j
  · subst hij
    by_cases hq3 : q = 3
    · subst hq3
      have : i * 5 + 3 < cs.size := by omega
      simp [this, pv]
    · rw [if_neg (by omega), e1]
      unfold pv
      simp [hq3]
  · rw [if_neg (by omega), e1]
    simp [hij]
theorem LP.setT {w W : World} {b0 pr2 n k k2 j M : Nat} {h v : Value} {D2 T2 : Nat → Value} {res lr : Nat} {loc : Int} (L : LP w W b0 pr2 n k k2 M h D2 T2 res lr loc) (hj : j < k2) {l' : Nat} (u : UW W b0 v l') (hl : l' ≤ (2 * (k + 1) + 1) * M) : LP w (W.setCell ⟨pr2, j * 5 + 3, none⟩ v) b0 pr2 n (k + 1) k2 M h D2 (fun i => if i = j then v else T2 i) res lr loc := by
  obtain ⟨cs, r, s, e⟩ := L.parts.row
  have hk := K16.setO r (j * 5 + 3) v
  have ho := KP.setO r (j * 5 + 3) v
  obtain ⟨l, h1, h2⟩ := L.hd
  refine ⟨⟨l, h1.moved hk, bound_mono k M l h2⟩, ⟨L.parts.row.setT L.parts.le hj v, L.parts.le, L.parts.base, fun i hi => (L.parts.dat i hi).moved hk ho (bound_mono k M _ (Nat.le_refl _)), fun i hi => ?_⟩, L.k16.trans hk, fun g es t r' ht => (L.ko g es t r' ht).set_other (by have := r'.lt; have := L.pn; omega) _ _, L.below.setCell L.parts.base _, L.resr.set_other (row_ne L.resr r (by decide)) _ _, L.locr.set_other (row_ne L.locr r (by decide)) _ _, L.pn⟩
  by_cases hij : i = j
  · exact ⟨l', by simp only [hij, if_true]; exact u.moved hk, hl⟩
  · obtain ⟨l2, g1, g2⟩ := L.parts.tail i hi
    exact ⟨l2, by simp only [hij, if_false]; exact g1.moved hk, bound_mono k M l2 g2⟩
theorem setsO {g : Nat} : ∀ (vs : List Value) (o : Nat) (w : World) (es : Array Value) (t : TypeId), RowAt w g es t →
    (∀ x ds u, x ≠ g → RowAt w x ds u → RowAt (w.setCells g o vs) x ds u) ∧ (∀ B, B ≤ g → Below B w (w.setCells g o vs)) ∧
    ∃ es', RowAt (w.setCells g o vs) g es' t ∧ es'.size = es.size ∧ (∀ j, j < o ∨ o + vs.length ≤ j → es'[j]? = es[j]?) ∧ ∀ j v, vs[j]? = some v → o + j < es.size → es'[o + j]? = some v
  | [], o, w, es, t, r => ⟨fun _ _ _ _ h => h, fun _ _ => Below.refl _ _, es, r, rfl, fun _ _ => rfl, fun j v h => by simp at h⟩
  | v :: vs, o, w, es, t, r => by
    obtain ⟨a1, a2, es', a3, a4, a5, a6⟩ := setsO vs (o + 1) (w.setCell ⟨g, o, none⟩ v) (es.setIfInBounds o v) t (r.set o v)
    refine ⟨fun x ds u hx h => a1 x ds u hx (h.set_other hx o v), fun B hB => ((Below.refl _ _).setCell hB v).trans (a2 B hB), es', a3, by rw [a4]; simp, fun j hj => ?_, fun j x hx hs => ?_⟩
    · rw [a5 j (by simp at hj; omega), Array.getElem?_setIfInBounds, if_neg (by simp at hj; omega)]
    · cases j with
      | zero =>
        simp only [List.getElem?_cons_zero, Option.some.injEq] at hx
        subst hx
        have : o < es.size := by omega
        rw [Nat.add_zero, a5 o (.inl (by omega)), Array.getElem?_setIfInBounds]
        simp [this]
      | succ j =>
        have := a6 j x (by simpa using hx) (by simp; omega)
        rw [show o + (j + 1) = o + 1 + j from by omega]
        exact this
def cells5 (d tl : Value) : List Value := [d, .int .i32 0, .string ByteArray.empty, tl, .int .i32 0]
theorem cells5_pv (d tl : Value) (q : Nat) (hq : q < 5) : (cells5 d tl)[q]? = some (pv d tl q) := by
  rcases (show q = 0 ∨ q = 1 ∨ q = 2 ∨ q = 3 ∨ q = 4 by omega) with rfl | rfl | rfl | rfl | rfl <;> rfl
theorem LP.push {w W : World} {b0 pr2 n k k2 M : Nat} {h d tl : Value} {D2 T2 : Nat → Value} {res lr : Nat} {loc : Int} (L : LP w W b0 pr2 n k k2 M h D2 T2 res lr loc) (hk2 : k2 < n) {l : Nat} (hd : PD W b0 d false M) (u : UW W b0 tl l) (hl : l ≤ M) : LP w (W.setCells pr2 (k2 * 5) (cells5 d tl)) b0 pr2 n (k + 1) (k2 + 1) M h (fun i => if i = k2 then d else D2 i) (fun i => if i = k2 then tl else T2 i) res lr loc ∧ ∀ B, B ≤ pr2 → Below B W (W.setCells pr2 (k2 * 5) (cells5 d tl)) := by
  obtain ⟨cs, r, s, e⟩ := L.parts.row
  obtain ⟨a1, a2, es', a3, a4, a5, a6⟩ := setsO (cells5 d tl) (k2 * 5) W cs 53 r
  have hk : K16 W (W.setCells pr2 (k2 * 5) (cells5 d tl)) := fun x es r' u => ⟨es, a1 _ _ _ (row_ne r' r (by decide)) r', rfl, u⟩
  have ho : KP W (W.setCells pr2 (k2 * 5) (cells5 d tl)) := fun x es t r' _ ht => a1 _ _ _ (row_ne r' r ht) r'
  obtain ⟨l2, h1, h2⟩ := L.hd
  have hM : M ≤ (2 * (k + 1) + 1) * M := Nat.le_mul_of_pos_left _ (by omega)
  refine ⟨⟨⟨l2, h1.moved hk, bound_mono k M l2 h2⟩, ⟨⟨es', a3, by omega, fun i hi q hq => ?_⟩, hk2, L.parts.base, fun i hi => ?_, fun i hi => ?_⟩, L.k16.trans hk, fun g es t r' ht => a1 _ _ _ (by have := r'.lt; have := L.pn; omega) (L.ko g es t r' ht), L.below.trans (a2 _ L.parts.base), a1 _ _ _ (row_ne L.resr r (by decide)) L.resr, a1 _ _ _ (row_ne L.locr r (by decide)) L.locr, L.pn⟩, a2⟩
  · by_cases hi2 : i = k2
    · subst hi2
      simp only [if_true]
      exact a6 q _ (cells5_pv d tl q hq) (by omega)
    · simp only [hi2, if_false]
      rw [a5 (i * 5 + q) (.inl (by omega))]
      exact e i (by omega) q hq
  · by_cases hi2 : i = k2
    · simp only [hi2, if_true]
      exact hd.moved hk ho hM
    · simp only [hi2, if_false]
      exact (L.parts.dat i (by omega)).moved hk ho (bound_mono k M _ (Nat.le_refl _))
  · by_cases hi2 : i = k2
    · simp only [hi2, if_true]
      exact ⟨l, u.moved hk, by omega⟩
    · simp only [hi2, if_false]
      obtain ⟨l3, g1, g2⟩ := L.parts.tail i (by omega)
      exact ⟨l3, g1.moved hk, bound_mono k M l3 g2⟩
theorem wpList_app {P : Program} (w : World) {ops : Array Oper} {rest : List Oper} {o : Oper} {a : Act} {Q : Exit → Act → World → Prop} (hg : o.guard = none) (s x : Operand) (t : TypeId)
    (hop : o.op = Op.call { callee := Callee.builtin Builtin.append, args := #[s, x], argTypes := #[t, t] }) (hty : o.type = t) (v y v' : Value) (w' : World) (hs : a.eval s = v) (hx : a.eval x = y)
    (hrun : (Builtin.append_ #[t, t] t #[v, y]).run P w = .ok v' w') (hK : wpList P ops Q rest (a.put o.dst v') w') : wpList P ops Q (o :: rest) a w := by
  refine wpList_plain hg fun K hK' => ?_
  unfold Oper.wp
  simp [execOp, hop, hty, resolve, invoke, builtin, hs, hx, hrun, Result.andThen]
  exact hK' _ _ hK
def Same (w : World) (n k k2 : Nat) (h hd0 : Value) (D T D2 T2 : Nat → Value) (wr : World) : Prop := k2 = k ∧ h = hd0 ∧ (∀ i, i < k → D2 i = D i ∧ T2 i = T i) ∧ Below w.heap.size w wr

end Go.Proofs.YtkncfhhiookgdacDoor
