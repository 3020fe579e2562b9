import Derived.Test.YtkncfhhiookgdaaDoorKit
import Derived.Test.YtkncfhhiookgdaaDoorSnC
import Derived.Test.YtkncfhhiookgdaaDoorAs
namespace Go.Proofs.YtkncfhhiookgdaaDoor
open Go.ChangeShapes Go.WideShapes Go.ChangeAt Go.RowKit
set_option linter.unusedVariables false
set_option maxRecDepth 100000
set_option maxHeartbeats 2000000

open Go.Extern
def dataV (l : Option Nat) (e : Nat) : Value := match l with | none => .iface 202 (ptr e) | some b => .iface 44 (ptr b)
def locV (l : Option Nat) : Value := match l with | none => .pointer none | some b => ptr b
/-- A zero declaration's cells. -/
def dz (j : Nat) : Value := if j = 0 ∨ j = 2 then .nilIface else .int .i32 0
/-- A local's row: its declarations all without values, its kind. -/
def LocAt (w : World) (b : Nat) (kd : Int) : Prop := ∃ x y g m, RowAt w b #[.slice (some ⟨g, 0, none⟩) m m, .int .u8 kd, x, y] 49 ∧ 0 ≤ kd ∧ kd ≤ 4 ∧ m ≤ 2 ∧ Rec w g 213 4 m (fun _ j => dz j)
/-- The statements and the locals. -/
structure ST (w : World) (n G Lr : Nat) (lb : Nat → Option Nat) (eb : Nat → Nat) (st kd : Nat → Int) : Prop where
  stm : Rec w G 72 2 n (fun i j => if j = 0 then dataV (lb i) (eb i) else .int .i32 (st i))
  loc : Cells w Lr 44 n (fun i => locV (lb i))
  row : ∀ i b, i < n → lb i = some b → LocAt w b (kd i)
  inj : ∀ i j b, i < n → j < n → lb i = some b → lb j = some b → i = j
theorem Rec.moved {v v' : World} {R s N : Nat} {f : Nat → Nat → Value} {E : TypeId} (h : Rec v R E s N f) (hk : ∀ es, RowAt v R es E → RowAt v' R es E) : Rec v' R E s N f := by
  obtain ⟨cs, r, h1, h2⟩ := h
  exact ⟨cs, hk cs r, h1, h2⟩
theorem Cells.moved {v v' : World} {R N : Nat} {f : Nat → Value} {E : TypeId} (h : Cells v R E N f) (hk : ∀ es, RowAt v R es E → RowAt v' R es E) : Cells v' R E N f := by
  obtain ⟨cs, r, h1, h2⟩ := h
  exact ⟨cs, hk cs r, h1, h2⟩
theorem LocAt.moved {v v' : World} {b : Nat} {kd : Int} (h : LocAt v b kd) (hk : ∀ j es t, RowAt v j es t → (t = 49 ∨ t = 213) → RowAt v' j es t) : LocAt v' b kd := by
  obtain ⟨x, y, g, m, h1, h2, h3, h4, h5⟩ := h
  exact ⟨x, y, g, m, hk _ _ _ h1 (.inl rfl), h2, h3, h4, h5.moved fun es r => hk _ _ _ r (.inr rfl)⟩
/-- Rows but contexts' stay. -/
def K39 (w w' : World) : Prop := ∀ j es t, RowAt w j es t → t ≠ 39 → RowAt w' j es t
theorem ST.moved {w w' : World} {n G Lr : Nat} {lb : Nat → Option Nat} {eb : Nat → Nat} {st kd : Nat → Int} (h : ST w n G Lr lb eb st kd) (hk : K39 w w') : ST w' n G Lr lb eb st kd :=
  ⟨h.stm.moved fun es r => hk _ _ _ r (by decide), h.loc.moved fun es r => hk _ _ _ r (by decide), fun i b hi hb => (h.row i b hi hb).moved fun j es t r ht => hk _ _ _ r (by rcases ht with rfl | rfl <;> decide), h.inj⟩
theorem K39.of_below {w w' : World} (h : Below w.heap.size w w') : K39 w w' := fun j es t r _ => r.below h r.lt
theorem K39.trans {a b c : World} (h : K39 a b) (g : K39 b c) : K39 a c := fun j es t r ht => g j es t (h j es t r ht) ht
/-- Rows but contexts' and locals' stay. -/
def K2 (w w' : World) : Prop := ∀ j es t, RowAt w j es t → t ≠ 39 → t ≠ 49 → RowAt w' j es t
theorem K2.trans {a b c : World} (h : K2 a b) (g : K2 b c) : K2 a c := fun j es t r h1 h2 => g j es t (h j es t r h1 h2) h1 h2
theorem K39.k2 {a b : World} (h : K39 a b) : K2 a b := fun j es t r h1 _ => h j es t r h1
theorem PS.moved {w w' : World} {B p cu k : Nat} {f md : Int} {mi ww : Bool} (h : PS w B p cu f md mi ww k) (hk : K2 w w') : PS w' B p cu f md mi ww k := by
  obtain ⟨cs, V, xs, h1, h2, h3, h4⟩ := h
  refine ⟨cs, V, xs, hk _ _ _ h1 (by decide) (by decide), h2, h3, own_kept h4 fun g hg => ?_⟩
  obtain ⟨⟨es, e1⟩, _⟩ := own_row h4 hg
  exact (hk _ _ _ e1 (by decide) (by decide)).trans e1.symm
/-- The kind of local k is set. -/
theorem ST.setKind {w : World} {n G Lr k b : Nat} {lb : Nat → Option Nat} {eb : Nat → Nat} {st kd : Nat → Int} (h : ST w n G Lr lb eb st kd) (hk : k < n) (hb : lb k = some b) (v : Int) (h0 : 0 ≤ v) (h4 : v ≤ 4) :
    ST (w.setCell ⟨b, 1, none⟩ (.int .u8 v)) n G Lr lb eb st (fun i => if i = k then v else kd i) := by
  obtain ⟨x, y, g, m, r, _⟩ := h.row k b hk hb
  have ko : ∀ j es t, RowAt w j es t → t ≠ 49 → RowAt (w.setCell ⟨b, 1, none⟩ (.int .u8 v)) j es t := fun j es t r' ht => r'.set_other (row_ne r' r ht) 1 _
  refine ⟨h.stm.moved fun es r' => ko _ _ _ r' (by decide), h.loc.moved fun es r' => ko _ _ _ r' (by decide), fun i b' hi hb' => ?_, h.inj⟩
  obtain ⟨x', y', g', m', r', a1, a2, a3, a4⟩ := h.row i b' hi hb'
  by_cases e : i = k
  · subst e
    rw [hb] at hb'
    obtain rfl := Option.some.inj hb'
    simp only [if_pos]
    exact ⟨x', y', g', m', by simpa using r'.set 1 (.int .u8 v), h0, h4, a3, a4.moved fun es q => ko _ _ _ q (by decide)⟩
  · simp only [if_neg e]
    exact ⟨x', y', g', m', r'.set_other (fun e' => e (h.inj i k b' hi hk hb' (by rw [hb, e']))) 1 _, a1, a2, a3, a4.moved fun es q => ko _ _ _ q (by decide)⟩
/-- A context. -/
def Ctx (w : World) (c : Nat) (v : Int) (q : Bool) : Prop := ∃ a b, RowAt w c #[.int .i32 v, a, b, .bool q] 39
def Done (n : Nat) (lb : Nat → Option Nat) (kd : Nat → Int) (k : Nat) : Prop := ∀ i b, i < k → i < n → lb i = some b → kd i < 3
/-- After the scan. -/
def Scanned (B p cu c n G Lr : Nat) (f md : Int) (mi ww : Bool) (s : Nat) (lb : Nat → Option Nat) (eb : Nat → Nat) (st kd : Nat → Int) (b0 k : Nat) (w w' : World) : Prop :=
  ∃ kd' v q, ST w' n G Lr lb eb st kd' ∧ Done n lb kd' k ∧ (∀ i, k ≤ i → kd' i = kd i) ∧ Ctx w' c v q ∧ K2 w w' ∧ Below b0 w w' ∧ (Done n lb kd n → Below w.heap.size w w')
/-- What a cut leaves: the context somehow, the rest as it was. -/
def Mid (c b0 : Nat) (W wx : World) : Prop := (∃ v q a b, RowAt wx c #[.int .i32 v, a, b, .bool q] 39) ∧ K39 W wx ∧ Below b0 W wx
theorem Mid.set0 {c b0 : Nat} {W : World} {v : Int} {a b : Value} {q : Bool} (h : RowAt W c #[.int .i32 v, a, b, .bool q] 39) (hb : b0 ≤ c) (v' : Int) : Mid c b0 W (W.setCell ⟨c, 0, none⟩ (.int .i32 v')) :=
  ⟨⟨v', q, a, b, by simpa using h.set 0 (.int .i32 v')⟩, fun j es t r ht => r.set_other (row_ne r h ht) 0 _, (Below.refl _ _).setCell hb _⟩
theorem Mid.set3 {c b0 : Nat} {W : World} {v : Int} {a b : Value} {q : Bool} (h : RowAt W c #[.int .i32 v, a, b, .bool q] 39) (hb : b0 ≤ c) (q' : Bool) : Mid c b0 W (W.setCell ⟨c, 3, none⟩ (.bool q')) :=
  ⟨⟨v, q', a, b, by simpa using h.set 3 (.bool q')⟩, fun j es t r ht => r.set_other (row_ne r h ht) 3 _, (Below.refl _ _).setCell hb _⟩
theorem Mid.refl {c b0 : Nat} {W : World} {v : Int} {a b : Value} {q : Bool} (h : RowAt W c #[.int .i32 v, a, b, .bool q] 39) : Mid c b0 W W := ⟨⟨v, q, a, b, h⟩, fun _ _ _ r _ => r, Below.refl _ _⟩
theorem Scanned.skip {B p cu c n G Lr : Nat} {f md : Int} {mi ww : Bool} {s : Nat} {lb : Nat → Option Nat} {eb : Nat → Nat} {st kd kd' : Nat → Int} {b0 k : Nat} {w wr wr' : World} {v : Int} {q : Bool} (h1 : ST wr n G Lr lb eb st kd') (h2 : Done n lb kd' k) (h3 : ∀ i, k ≤ i → kd' i = kd i) (h4 : Ctx wr c v q) (h5 : K2 w wr) (h6 : Below b0 w wr) (h7 : Done n lb kd n → Below w.heap.size w wr)
    (hb : Below wr.heap.size wr wr') (hb0 : b0 ≤ w.heap.size) (hk : ∀ b, lb k = some b → kd' k < 3) : Scanned B p cu c n G Lr f md mi ww s lb eb st kd b0 (k + 1) w wr' := by
  obtain ⟨a, d, hr⟩ := h4
  refine ⟨kd', v, q, h1.moved (K39.of_below hb), fun i b hi hin hl => ?_, fun i hi => h3 i (by omega), ⟨a, d, hr.below hb hr.lt⟩, h5.trans (K39.of_below hb).k2, h6.trans (hb.mono (Nat.le_trans hb0 h6.size)), fun hD => (h7 hD).trans (hb.mono (h7 hD).size)⟩
  by_cases e : i = k
  · subst e; exact hk b hl
  · exact h2 i b (by omega) hin hl
theorem Scanned.kind {B p cu c n G Lr : Nat} {f md : Int} {mi ww : Bool} {s : Nat} {lb : Nat → Option Nat} {eb : Nat → Nat} {st kd kd' : Nat → Int} {b0 k b : Nat} {w wr wx : World} {v : Int} {q : Bool} (h1 : ST wr n G Lr lb eb st kd') (h2 : Done n lb kd' k) (h3 : ∀ i, k ≤ i → kd' i = kd i) (h5 : K2 w wr) (h6 : Below b0 w wr)
    (hk : k < n) (hl : lb k = some b) (hb : b0 ≤ b) (m1 : K39 wr wx) (m2 : Below b0 wr wx) (hc : Ctx wx c v q) (v' : Int) (hv0 : 0 ≤ v') (hv : v' < 3) (hkk : 3 ≤ kd' k) : Scanned B p cu c n G Lr f md mi ww s lb eb st kd b0 (k + 1) w (wx.setCell ⟨b, 1, none⟩ (.int .u8 v')) := by
  have hS := h1.moved m1
  obtain ⟨x, y, g, m, r, _⟩ := hS.row k b hk hl
  obtain ⟨ca, cb, hr⟩ := hc
  refine ⟨_, v, q, hS.setKind hk hl v' hv0 (by omega), fun i b' hi hin hl' => ?_, fun i hi => ?_, ⟨ca, cb, hr.set_other (row_ne hr r (by decide)) 1 _⟩, fun j es t r' t1 t2 => ?_, (h6.trans m2).setCell hb _, fun hD => ?_⟩
  · show (if i = k then v' else kd' i) < 3
    by_cases e : i = k
    · rw [if_pos e]; exact hv
    · rw [if_neg e]; exact h2 i b' (by omega) hin hl'
  · show (if i = k then v' else kd' i) = _
    rw [if_neg (by omega)]
    exact h3 i (by omega)
  · have q1 := m1 _ _ _ (h5 _ _ _ r' t1 t2) t1
    exact q1.set_other (row_ne q1 r t2) 1 _
  · have := hD k b hk hk hl
    rw [h3 k (Nat.le_refl _)] at hkk
    omega
set_option maxHeartbeats 8000000 in
theorem scan20 (B p cu c n G Lr : Nat) (f md : Int) (mi ww : Bool) (s : Nat) (lb : Nat → Option Nat) (eb : Nat → Nat) (st kd : Nat → Int) (v0 : Int) (q0 : Bool) (b0 : Nat) (o : Option Addr) (es : Array Value) (w : World)
    (hS : ST w n G Lr lb eb st kd) (hP : PS w B p cu f md mi ww s) (hc : RowAt w cu es 67) (he : es[1]? = some (.pointer o)) (hx : Ctx w c v0 q0) (hn : n ≤ 4096) (h0 : b0 ≤ c) (h1 : ∀ i b, i < n → lb i = some b → b0 ≤ b) (h2 : b0 ≤ w.heap.size) :
    Calls Tryd.prog 20 #[ptr c, ptr p, .slice (some ⟨G, 0, none⟩) n n] w fun e w' => e = .returned (.tuple #[]) ∧ Scanned B p cu c n G Lr f md mi ww s lb eb st kd b0 n w w' := by
  have HS := Lib.hid hS
  have HP := Lib.hid (And.intro hP (And.intro hc he))
  have HX := Lib.hid hx
  have HB := Lib.hid (And.intro h0 (And.intro h1 h2))
  clear hS hP hc he hx h0 h1 h2
  go_enter Tryd.func20, Tryd.ntmps20
  go_wp2_with fail
  go_loopw [16, 7, 8, 9, 10, 11, 12, 13] (fun v16 _ _ _ _ _ _ _ wr => ∃ k : Nat, k ≤ n ∧ v16 = .int .i64 k ∧ Scanned B p cu c n G Lr f md mi ww s lb eb st kd b0 k w wr) (fun v16 _ _ _ _ _ _ _ _ => n - (intOf v16).toNat)
  case atStart => exact ⟨0, Nat.zero_le _, rfl, kd, v0, q0, HS.out, fun i b hi => by omega, fun _ _ => rfl, HX.out, fun _ _ _ r _ _ => r, Below.refl _ _, fun _ => Below.refl _ _⟩
  case round =>
    obtain ⟨k, hk, rfl, kd', v, q, hST, hD, hO, hCx, hK2, hBe, hAll⟩ := hrel
    have HST := Lib.hid hST
    have HR := Lib.hid (And.intro hD (And.intro hO (And.intro hK2 (And.intro hBe hAll))))
    obtain ⟨ca, cb, hcr⟩ := hCx
    have HC := Lib.hid hcr
    clear hST hD hO hK2 hBe hAll hcr HS HX
    by_cases hlt : k < n
    · have q0 := HST.out.stm.cell0 hlt (by decide)
      have q1 := HST.out.stm.cell (j := 1) hlt (by decide)
      have lG := HST.out.stm.lt
      simp only [if_true] at q0
      simp only [show ¬ (1 : Nat) = 0 from by decide, if_false] at q1
      have HQ := Lib.hid (And.intro q0 q1)
      cases hl : lb k with
      | none =>
        rw [hl] at q0
        unfold dataV ptr at q0
        simp only [] at q0
        have HL := Lib.hid hl
        clear hl
        go_wp2_with fail
        go_roundw
        case rel => exact ⟨k + 1, by omega, by go_num, HR.out.1 |> fun _ => Scanned.skip HST.out HR.out.1 HR.out.2.1 ⟨ca, cb, HC.out⟩ HR.out.2.2.1 HR.out.2.2.2.1 HR.out.2.2.2.2 ((Below.refl _ _).alloc (Nat.le_refl _) _) HB.out.2.2 (fun b hb => by rw [HL.out] at hb; cases hb)⟩
        case measure => simp [intOf]; omega
      | some b =>
        obtain ⟨x, y, g, m, hrow, a0, a4, am, hdec⟩ := HST.out.row k b hlt hl
        obtain ⟨kk, hkk⟩ : ∃ kk, kd' k = kk := ⟨_, rfl⟩
        rw [hkk] at hrow a0 a4
        rw [hl] at q0
        unfold dataV ptr at q0
        simp only [] at q0
        have c0 := hrow.cellv (j := 0) (v := .slice (some ⟨g, 0, none⟩) m m) rfl
        have c1 := hrow.cellv (j := 1) (v := .int .u8 kk) rfl
        have g1 := hrow.frozen 1
        have lb1 := hrow.lt
        have HL := Lib.hid (And.intro hl (And.intro hkk (And.intro hrow (And.intro hdec (And.intro a0 a4)))))
        clear hl hkk hrow hdec
        by_cases h3 : 3 ≤ kk
        · have hu := fun W => using22 kk true (by simpa using h3) W
          have HU := Lib.hid hu
          have x0 := HC.out.cellv (j := 0) (v := .int .i32 v) rfl
          have x3 := HC.out.cellv (j := 3) (v := .bool q) rfl
          have y0 := HC.out.frozen 0
          have y3 := HC.out.frozen 3
          have lc := HC.out.lt
          clear hu
          unfold ptr
          go_wp2_with fail
          refine (HU.out _).mono ?_
          rintro e w1 ⟨rfl, rfl⟩
          go_upto_if 39 with fail
          have bW : Below wr.heap.size wr (wr.alloc (.cells #[.iface 44 (.pointer (some ⟨b, 0, none⟩)), .int .i32 (st k)] 72)) := (Below.refl _ _).alloc (Nat.le_refl _) _
          have rs := RowAt.new wr #[.iface 44 (.pointer (some ⟨b, 0, none⟩)), .int .i32 (st k)] 72
          obtain ⟨sx, hsx⟩ : ∃ sx, sx = wr.heap.size := ⟨_, rfl⟩
          rw [← hsx] at rs ⊢
          clear hsx
          generalize wr.alloc (.cells #[.iface 44 (.pointer (some ⟨b, 0, none⟩)), .int .i32 (st k)] 72) = W at bW rs ⊢
          have hcW := HC.out.below bW HC.out.lt
          have HW := Lib.hid (And.intro bW (And.intro rs hcW))
          have s1 := rs.cellv (j := 1) (v := .int .i32 (st k)) rfl
          have x0' := hcW.cellv (j := 0) (v := .int .i32 v) rfl
          have y0' := hcW.frozen 0
          have ls := rs.lt
          have lc' := hcW.lt
          clear bW rs hcW x0 x3 y0 y3 lc c0 c1 g1 lb1 q0 q1 lG
          go_cut [] (fun wx => Mid c b0 W wx)
          case first =>
            by_cases hv : v = 0
            · have hv' : (v == 0) = true := by simpa using hv
              clear hv
              go_wp2_with fail
              go_meet
              exact Mid.set0 HW.out.2.2 HB.out.1 _
            · have hv' : (v == 0) = false := by simpa using hv
              clear hv
              go_wp2_with fail
              go_meet
              exact Mid.refl HW.out.2.2
          case rest =>
            obtain ⟨⟨v2, q2, ca2, cb2, hc2⟩, hk2, hb2⟩ := hcut
            have hrow2 := hk2 _ _ _ (HL.out.2.2.1.below HW.out.1 HL.out.2.2.1.lt) (by decide)
            have c1 := hrow2.cellv (j := 1) (v := .int .u8 kk) rfl
            have lb1 := hrow2.lt
            have H2 := Lib.hid (And.intro hc2 (And.intro hk2 hb2))
            clear hc2 hk2 hb2 hrow2 s1 x0' y0' ls lc'
            go_upto_if 49 with fail
            have x3 := H2.out.1.cellv (j := 3) (v := .bool q2) rfl
            have y3 := H2.out.1.frozen 3
            have lc := H2.out.1.lt
            obtain ⟨W2, rfl⟩ : ∃ W2 : World, W2 = wc := ⟨_, rfl⟩
            go_cut [] (fun wx => Mid c b0 W2 wx)
            case first =>
              by_cases hv : kk = 4
              · have hv' : (kk == 4) = true := by simpa using hv
                clear hv
                go_wp2_with fail
                go_meet
                exact Mid.set3 H2.out.1 HB.out.1 _
              · have hv' : (kk == 4) = false := by simpa using hv
                clear hv
                go_wp2_with fail
                go_meet
                exact Mid.refl H2.out.1
            case rest =>
              obtain ⟨⟨v3, q3, ca3, cb3, hc3⟩, hk3, hb3⟩ := hcut
              have k3 : K39 wr wc := (K39.of_below HW.out.1).trans (H2.out.2.1.trans hk3)
              have B3 : Below b0 wr wc := (HW.out.1.mono (Nat.le_trans HB.out.2.2 HR.out.2.2.2.1.size)).trans (H2.out.2.2.trans hb3)
              have hrow3 := k3 _ _ _ HL.out.2.2.1 (by decide)
              have hdec3 := HL.out.2.2.2.1.moved (v' := wc) fun es r => k3 _ _ _ r (by decide)
              have c0 := hrow3.cellv (j := 0) (v := .slice (some ⟨g, 0, none⟩) m m) rfl
              have lb3 := hrow3.lt
              have H3 := Lib.hid (And.intro hc3 (And.intro k3 (And.intro B3 hdec3)))
              clear hc3 hk3 hb3 k3 B3 hrow3 hdec3 c1 lb1 x3 y3 lc
              go_wp2_with fail
              obtain ⟨wo, rfl⟩ : ∃ wo : World, wo = wr := ⟨_, rfl⟩
              go_loopw [58, 10, 11, 12, 13] (fun v58 _ _ _ _ wr2 => ∃ j : Nat, j ≤ m ∧ v58 = .int .i64 j ∧ Below wc.heap.size wc wr2) (fun v58 _ _ _ _ _ => m - (intOf v58).toNat)
              case atStart => exact ⟨0, Nat.zero_le _, rfl, Below.refl _ _⟩
              case round =>
                obtain ⟨j, hj, rfl, hbj⟩ := hrel
                have HBJ := Lib.hid hbj
                have zj := hbj.size
                clear hbj c0
                by_cases hlt2 : j < m
                · have hd := H3.out.2.2.2.below HBJ.out H3.out.2.2.2.lt
                  have d0 := hd.cell0 hlt2 (by decide)
                  have d1 := hd.cell (j := 1) hlt2 (by decide)
                  have d2 := hd.cell (j := 2) hlt2 (by decide)
                  have d3 := hd.cell (j := 3) hlt2 (by decide)
                  have lg := hd.lt
                  simp only [dz, true_or, or_true, if_true, show ¬ ((1 : Nat) = 0 ∨ (1 : Nat) = 2) from by decide, show ¬ ((3 : Nat) = 0 ∨ (3 : Nat) = 2) from by decide, if_false] at d0 d1 d2 d3
                  clear hd
                  go_wp2_with fail
                  go_roundw
                  case rel => exact ⟨j + 1, by omega, by go_num, HBJ.out.alloc zj _⟩
                  case measure => simp [intOf]; omega
                · obtain rfl : j = m := by omega
                  clear hlt2
                  have kj : K39 wo wr := H3.out.2.1.trans (K39.of_below HBJ.out)
                  have hP2 := HP.out.1.moved (HR.out.2.2.1.trans kj.k2)
                  have hcu := (kj.k2 _ _ _ (HR.out.2.2.1 _ _ _ HP.out.2.1 (by decide) (by decide)) (by decide) (by decide)).cellv HP.out.2.2
                  have hbr := kj _ _ _ HL.out.2.2.1 (by decide)
                  have bj : Below b0 wo wr := H3.out.2.2.1.trans (HBJ.out.mono (Nat.le_trans HB.out.2.2 (Nat.le_trans HR.out.2.2.2.1.size H3.out.2.2.1.size)))
                  have hcx : Ctx wr c v3 q3 := ⟨ca3, cb3, H3.out.1.below HBJ.out H3.out.1.lt⟩
                  have HK := Lib.hid (Scanned.kind (B := B) (p := p) (cu := cu) (f := f) (md := md) (mi := mi) (ww := ww) (s := s) HST.out HR.out.1 HR.out.2.1 HR.out.2.2.1 HR.out.2.2.2.1 hlt HL.out.1 (HB.out.2.1 _ _ hlt HL.out.1) kj bj hcx)
                  have HSel := Lib.hid (sel25 B p cu f md mi ww s wr o hP2 hcu)
                  obtain ⟨cs, V, xs, r1, hp, _, _⟩ := hP2
                  have p352 := r1.cellv hp.c352
                  have p104 := r1.cellv hp.c104
                  have b1 := hbr.cellv (j := 1) (v := .int .u8 kk) rfl
                  have f1 := hbr.frozen 1
                  have lb4 := hbr.lt
                  have h3' : 3 ≤ kd' k := by rw [HL.out.2.1]; exact h3
                  have H33 := Lib.hid h3'
                  unfold ptr at p104 HSel
                  clear kj hbr bj hcx r1 hp h3'
                  have hend : ∀ v' : Int, (v' = 0 ∨ v' = 1 ∨ v' = 2) → Scanned B p cu c n G Lr f md mi ww s lb eb st kd b0 (k + 1) w (wr.setCell ⟨b, 1, none⟩ (.int .u8 v')) := fun v' hv' => HK.out v' (by omega) (by omega) H33.out
                  have HEND := Lib.hid hend
                  clear hend HK
                  cases ww
                  · go_wp2_with fail
                    refine HSel.out.mono ?_
                    rintro e w1 ⟨vv, rfl, hvv, rfl⟩
                    have HVV := Lib.hid hvv
                    clear hvv
                    go_wp2_with fail
                    go_roundw
                    case rel => exact ⟨k + 1, by omega, by go_num, HEND.out vv HVV.out⟩
                    case measure => simp [intOf]; omega
                  · cases o
                    · go_wp2_with fail
                      go_roundw
                      case rel => exact ⟨k + 1, by omega, by go_num, HEND.out 0 (.inl rfl)⟩
                      case measure => simp [intOf]; omega
                    · go_wp2_with fail
                      refine HSel.out.mono ?_
                      rintro e w1 ⟨vv, rfl, hvv, rfl⟩
                      have HVV := Lib.hid hvv
                      clear hvv
                      go_wp2_with fail
                      go_roundw
                      case rel => exact ⟨k + 1, by omega, by go_num, HEND.out vv HVV.out⟩
                      case measure => simp [intOf]; omega
        · have hu := fun W => using22 kk false (by simp; omega) W
          have HU := Lib.hid hu
          clear hu
          go_wp2_with fail
          refine (HU.out _).mono ?_
          rintro e w1 ⟨rfl, rfl⟩
          go_wp2_with fail
          go_roundw
          case rel => exact ⟨k + 1, by omega, by go_num, Scanned.skip HST.out HR.out.1 HR.out.2.1 ⟨ca, cb, HC.out⟩ HR.out.2.2.1 HR.out.2.2.2.1 HR.out.2.2.2.2 ((Below.refl _ _).alloc (Nat.le_refl _) _) HB.out.2.2 (fun b' hb' => by rw [HL.out.2.1]; omega)⟩
          case measure => simp [intOf]; omega
    · obtain rfl : k = n := by omega
      clear hlt
      go_wp2_with fail
      go_end0
      exact ⟨rfl, kd', v, q, HST.out, HR.out.1, HR.out.2.1, ⟨ca, cb, HC.out⟩, HR.out.2.2⟩

end Go.Proofs.YtkncfhhiookgdaaDoor
