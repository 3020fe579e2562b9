import Derived.Test.YtailfkedgdlldaaKit
import Derived.Test.YtailfkedgdlldaaIgD
namespace Go.Proofs.Ytailfkedgdlldaa.fnIgnoreDotChainUndoesRecordUsage
open Go.ChangeShapes Go.WideShapes Go.ChangeAt Go.RowKit
set_option linter.unusedVariables false
set_option maxRecDepth 100000
set_option maxHeartbeats 2000000

theorem zz13 (a1 : Option Addr) (n1 c1 : Nat) (k : Int) (a2 : Option Addr) (n2 c2 : Nat) (b1 b2 b3 : Bool) (pc : Int) (w : World) (h1 : n1 ≤ 1048576) (h2 : n2 ≤ 1048576) (h : n1 + n2 ≤ 1048576) : Calls Try.prog 13 #[.slice a1 n1 c1, .int .i64 k, .slice a2 n2 c2, .bool b1, .bool b2, .bool b3, .int .u32 pc] w fun e w' => e = .returned (.bool true) ∧ w = w' := by
  go_enter Try.func13, Try.ntmps13
  go_wp2
  go_ret
  exact ⟨rfl, rfl⟩

theorem wpList_putN {P : Program} {w : World} {S : Value → Prop} {ops : Array Oper} {rest : List Oper} {o : Oper} {a : Act} {Q : Exit → Act → World → Prop} (hg : o.guard = none) (m x y : Operand) (t : TypeId) (hop : o.op = Op.mapUpdate t m x y)
    (k e : TypeId) (K : KeysLike P k S) (ht : P.underlying t = some (.map k e)) (b n n' : Nat) (F : Value → Option Value) (hm : a.eval m = .map (some b)) (h : MapIs w b S F n) (v u : Value) (hx : a.eval x = v) (hy : a.eval y = u) (hv : S v) (hn : (if (F v).isSome then n else n + 1) = n')
    (hK : ∀ w', MapIs w' b S (putF F v u) n' → Turned b w w' → wpList P ops Q rest (a.put o.dst undef) w') : wpList P ops Q (o :: rest) a w :=
  wpList_put hg m x y t hop k e K ht b n F hm h v u hx hy hv fun w' h1 h2 => hK w' (hn ▸ h1) h2

def otherV (k : Nat) : Value := .agg #[.int .u32 7, .int .u32 k]
theorem otherV_pair (k : Nat) : IsPair (otherV k) := ⟨_, _, rfl⟩
theorem other_ne (k : Nat) : refV k ≠ otherV k := by
  intro h
  unfold refV otherV at h
  injection h with h
  simp at h
noncomputable def Fo (k : Nat) : Value → Option Value := putF (fun _ => none) (otherV k) (.agg #[.int .u32 5])
noncomputable def Ft (k : Nat) (pc : Int) : Value → Option Value := putF (Fo k) (refV k) (.agg #[.int .u32 pc])
theorem Fo_t (k : Nat) : Fo k (refV k) = none := putF_other _ _ (other_ne k)
theorem cnt2 (k : Nat) : (if (Fo k (refV k)).isSome then 1 else 1 + 1) = 2 := by rw [Fo_t]; rfl
theorem Fo_o (k : Nat) : Fo k (otherV k) = some (.agg #[.int .u32 5]) := putF_same _ _ _
theorem Ft_t (k : Nat) (pc : Int) : Ft k pc (refV k) = some (.agg #[.int .u32 pc]) := putF_same _ _ _
theorem Ft_o (k : Nat) (pc : Int) : Ft k pc (otherV k) = some (.agg #[.int .u32 5]) := by
  unfold Ft
  rw [putF_other _ _ (fun e => other_ne k e.symm)]
  exact Fo_o k

/-- The boxes of the law: the target, the other ref, the chain so far. -/
structure Bx (w : World) (t o E k : Nat) (d : Value) : Prop where
  t : RowAt w t #[.int .u32 0, .int .u32 k] 37
  o : RowAt w o #[.int .u32 7, .int .u32 k] 37
  e : RowAt w E #[d, .int .i32 0] 56
theorem Bx.kept {w w' : World} {t o E k : Nat} {d : Value} (h : Bx w t o E k d) (hk : ∀ j, j = t ∨ j = o ∨ j = E → w'.heap[j]? = w.heap[j]?) : Bx w' t o E k d :=
  ⟨h.t.kept (hk _ (.inl rfl)), h.o.kept (hk _ (.inr (.inl rfl))), h.e.kept (hk _ (.inr (.inr rfl)))⟩
theorem Bx.later {w w' : World} {t o E k : Nat} {d : Value} (h : Bx w t o E k d) (hk : ∀ j, j < w.heap.size → w'.heap[j]? = w.heap[j]?) : Bx w' t o E k d :=
  ⟨h.t.kept (hk _ h.t.lt), h.o.kept (hk _ h.o.lt), h.e.kept (hk _ h.e.lt)⟩
theorem Bx.store {w : World} {t o E k : Nat} {d d' : Value} (h : Bx w t o E k d) : Bx ((w.setCell ⟨E, 0, none⟩ d').setCell ⟨E, 1, none⟩ (.int .i32 0)) t o E k d' :=
  ⟨(h.t.set_other (h.t.ne h.e (by decide)) 0 d').set_other (h.t.ne h.e (by decide)) 1 (.int .i32 0), (h.o.set_other (h.o.ne h.e (by decide)) 0 d').set_other (h.o.ne h.e (by decide)) 1 (.int .i32 0), (h.e.set 0 d').set 1 (.int .i32 0)⟩

/-- Rows of other types stay over recording and ignoring. -/
theorem row_fr {w w' : World} {p S q m n b : Nat} {dead ts part : Bool} {f g : Nat → Int} {F : Value → Option Value} {cnt : Nat} {cs : Array Value} {t : TypeId} (h : St w p S S q m n dead ts part f g F cnt) (hm : part = false → m = S) (hf : Fr (XX S S m) w w') (hr : RowAt w b cs t) (ht : t ≠ 70) : w'.heap[b]? = w.heap[b]? := by
  obtain ⟨es, s1, _⟩ := h.Sy
  refine hf.block b hr.lt ?_
  have hs : b ≠ S := hr.ne s1 ht
  rintro (e | e | e)
  · exact hs e
  · exact hs e
  · cases part
    · exact hs (e.trans (hm rfl))
    · exact hr.neMap (h.Pt rfl).2 e

theorem walk_ns (x : Addr) (y2 : Addr) (n c k len2 cap2 : Nat) (z z2 : List Int) (dead : Bool) (partHas : Bool) (pc : Int) (w : World) (hn1 : 1 ≤ n) (hn2 : n ≤ 65536) (hk : k < n) (hl2 : len2 ≤ 65536) (hsum : 4 * n + len2 ≤ 1048576) (hp0 : 0 ≤ pc) (hp1 : pc ≤ 4294967295)
    (hcell : ∀ i, i < n → w.cell? (x.add i) = some (.int .u32 (z.getD i 0))) (hwf : ∀ i, i < n → 0 ≤ z.getD i 0 ∧ z.getD i 0 ≤ 4294967295) (hstep : ∀ i, i < len2 → w.cell? (y2.add i) = some (.int .u8 (z2.getD i 0))) (hsw : ∀ i, i < len2 → 0 ≤ z2.getD i 0 ∧ z2.getD i 0 ≤ 255) :
    Calls Try.prog 4 #[.slice (some x) n c, .int .i64 k, .slice (some y2) len2 cap2, .bool dead, .bool false, .bool partHas, .int .u32 pc] w fun e w' => e = .returned (.bool true) ∧ Below w.heap.size w w' := by
  have HC := Lib.hid hcell
  have HW := Lib.hid hwf
  have HST2 := Lib.hid hstep
  have HSW := Lib.hid hsw
  clear hcell hwf hstep hsw
  have hmm := @run_makeMap Try.prog
  have hn0 : ((n : Int) == 0) = false := by simp; omega
  go_enter Try.func4, Try.ntmps4
  go_wp2_with fail
  refine (zz13 _ _ _ _ _ _ _ _ _ _ _ _ (by omega) (by omega) (by omega)).mono ?_
  rintro e w0 ⟨rfl, rfl⟩
  go_wp2_with fail
  refine (count14 x n c z _ (by omega) HC.out).mono ?_
  rintro e w1 ⟨rfl, hS, b1⟩
  have z1 : w.heap.size < w1.heap.size := hS.lt
  have HS := Lib.hid hS
  clear hS
  go_wp2_with fail
  refine (new15 w.heap.size n 0 dead false _).mono ?_
  rintro e w3 ⟨p, rfl, hP, b3⟩
  have rt : RowAt w3 w1.heap.size #[.int .u32 0, .int .u32 k] 37 := ((RowAt.new _ _ _).alloc _).below b3 (by go_size)
  have ro : RowAt w3 (w1.heap.size + 1) #[.int .u32 7, .int .u32 k] 37 := (RowAt.newAt (by go_size)).below b3 (by go_size)
  have b13 : Below w1.heap.size w1 w3 := Below.trans (by go_grown) (b3.mono (by go_size))
  have HST : Hid (St w3 p w.heap.size w.heap.size 0 w.heap.size n dead false false (fun i => z.getD i 0) (fun _ => 0) (fun _ => none) 0) := ⟨hP, HS.out.kept (b13.block _ z1), (fun e => by cases e), (fun e => by cases e)⟩
  clear hP HS
  have B3 : Below w.heap.size w w3 := b1.trans (b13.mono b1.size)
  clear b3 b13 b1
  have HRT3 := Lib.hid rt
  have HRO3 := Lib.hid ro
  have t30 := rt.cellv (j := 0) (v := .int .u32 0) rfl
  have t31 := rt.cellv (j := 1) (v := .int .u32 k) rfl
  clear rt ro
  go_wp2_with fail
  refine (ident16 k _).mono ?_
  rintro e w4 ⟨d0, rfl, hC4, b4⟩
  obtain ⟨U4, u4, rfl⟩ := hC4.one
  have HC4 := Lib.hid hC4
  have st4 := Lib.hid (HST.out.later (fun j hj => b4.block j hj))
  have rt4 := Lib.hid (HRT3.out.below b4 HRT3.out.lt)
  have ro4 := Lib.hid (HRO3.out.below b4 HRO3.out.lt)
  have B4 : Below w.heap.size w w4 := B3.trans (b4.mono B3.size)
  clear hC4 b4 B3 HST HRT3 HRO3 t30 t31
  have z4 := B4.size
  go_wp2_with fail
  go_loopw [22] (fun v22 wr => ∃ (i : Nat) (d : Value), i ≤ len2 ∧ v22 = .int .i64 i ∧ Ch wr k i d ∧ Bx wr w1.heap.size (w1.heap.size + 1) w4.heap.size k d ∧ St wr p w.heap.size w.heap.size 0 w.heap.size n dead false false (fun i => z.getD i 0) (fun _ => 0) (fun _ => none) 0 ∧ Below w.heap.size w wr) (fun v22 _ => len2 - (intOf v22).toNat)
  case atStart => exact ⟨0, _, Nat.zero_le _, rfl, HC4.out.later (fun j hj => Below.heap_alloc _ _ _ hj), ⟨rt4.out.alloc _, ro4.out.alloc _, RowAt.new _ _ _⟩, st4.out.later (fun j hj => Below.heap_alloc _ _ _ hj), by go_grown⟩
  case round =>
    obtain ⟨i, d, hi, rfl, hC, hB, hS, hb⟩ := hrel
    obtain ⟨U, u, rfl⟩ := hC.one
    have HCC := Lib.hid hC
    have HB := Lib.hid hB
    have HSS := Lib.hid hS
    have e0 := hB.e.cellv (j := 0) (v := .iface U (.pointer (some ⟨u, 0, none⟩))) rfl
    have e1 := hB.e.cellv (j := 1) (v := .int .i32 0) rfl
    clear hC hB hS HC4 st4 rt4 ro4 B4
    by_cases hlt : i < len2
    · have hc := later (HST2.out i hlt) hb
      obtain ⟨s, hs⟩ : ∃ s, z2.getD i 0 = s := ⟨_, rfl⟩
      have hsw := HSW.out i hlt
      rw [hs] at hc hsw
      clear hs
      by_cases h2 : s % 2 = 0
      · have h2' : (s % 2 == 0) = true := by simpa using h2
        clear h2
        go_wp2_with fail
        refine (dot17 k i _ _ HCC.out).mono ?_
        rintro e w5 ⟨d5, rfl, hC5, b5⟩
        obtain ⟨V, v, rfl⟩ := hC5.one
        have hB5 := HB.out.later (fun j hj => b5.block j hj)
        have hS5 := Lib.hid (HSS.out.later (fun j hj => b5.block j hj))
        have q0 := hB5.e.cellv (j := 0) (v := .iface U (.pointer (some ⟨u, 0, none⟩))) rfl
        have q1 := hB5.e.cellv (j := 1) (v := .int .i32 0) rfl
        have g0 := hB5.e.frozen 0
        have g1 := hB5.e.frozen 1
        have HB5 := Lib.hid hB5
        have HC5 := Lib.hid hC5
        have b5' : Below w.heap.size w w5 := hb.trans (b5.mono hb.size)
        have l5 := hB5.e.lt
        clear hB5 hC5 b5
        go_wp2_with fail
        go_roundw
        case rel =>
          refine ⟨i + 1, _, by omega, by go_num, HC5.out.kept (fun j cs t hr ht => ?_), HB5.out.store, hS5.out.other HB5.out.e (by decide) (fun j hj => by rw [Below.heap_setCell _ _ _ _ hj, Below.heap_setCell _ _ _ _ hj]), by go_grown⟩
          have hne : j ≠ w4.heap.size := hr.ne HB5.out.e (by rcases ht with rfl | rfl | rfl <;> decide)
          rw [Below.heap_setCell _ _ _ _ hne, Below.heap_setCell _ _ _ _ hne]
        case measure => simp [intOf]; omega
      · have h2' : (s % 2 == 0) = false := by simpa using h2
        clear h2
        go_wp2_with fail
        refine (idx18 k i _ _ HCC.out).mono ?_
        rintro e w5 ⟨d5, rfl, hC5, b5⟩
        obtain ⟨V, v, rfl⟩ := hC5.one
        have hB5 := HB.out.later (fun j hj => b5.block j hj)
        have hS5 := Lib.hid (HSS.out.later (fun j hj => b5.block j hj))
        have q0 := hB5.e.cellv (j := 0) (v := .iface U (.pointer (some ⟨u, 0, none⟩))) rfl
        have q1 := hB5.e.cellv (j := 1) (v := .int .i32 0) rfl
        have g0 := hB5.e.frozen 0
        have g1 := hB5.e.frozen 1
        have HB5 := Lib.hid hB5
        have HC5 := Lib.hid hC5
        have b5' : Below w.heap.size w w5 := hb.trans (b5.mono hb.size)
        have l5 := hB5.e.lt
        clear hB5 hC5 b5
        go_wp2_with fail
        go_roundw
        case rel =>
          refine ⟨i + 1, _, by omega, by go_num, HC5.out.kept (fun j cs t hr ht => ?_), HB5.out.store, hS5.out.other HB5.out.e (by decide) (fun j hj => by rw [Below.heap_setCell _ _ _ _ hj, Below.heap_setCell _ _ _ _ hj]), by go_grown⟩
          have hne : j ≠ w4.heap.size := hr.ne HB5.out.e (by rcases ht with rfl | rfl | rfl <;> decide)
          rw [Below.heap_setCell _ _ _ _ hne, Below.heap_setCell _ _ _ _ hne]
        case measure => simp [intOf]; omega
    · obtain rfl : i = len2 := by omega
      clear hlt
      have t0 := HB.out.t.cellv (j := 0) (v := .int .u32 0) rfl
      have t1 := HB.out.t.cellv (j := 1) (v := .int .u32 k) rfl
      go_wp2_with fail
      refine (rec19 p w.heap.size w.heap.size 0 w.heap.size n k dead false _ _ _ _ 0 _ hk (by omega) HSS.out (fun e => by cases e) (by omega) (by omega) (HW.out k hk).1 (HW.out k hk).2).mono ?_
      rintro e w6 ⟨rfl, h6, f6⟩
      have hB6 : Bx w6 w1.heap.size (w1.heap.size + 1) w4.heap.size k _ := HB.out.kept fun j hj => by
        rcases hj with rfl | rfl | rfl
        · exact row_fr HSS.out (fun _ => rfl) f6 HB.out.t (by decide)
        · exact row_fr HSS.out (fun _ => rfl) f6 HB.out.o (by decide)
        · exact row_fr HSS.out (fun _ => rfl) f6 HB.out.e (by decide)
      have hC6 := Lib.hid (HCC.out.kept fun j cs t hr ht => row_fr HSS.out (fun _ => rfl) f6 hr (by rcases ht with rfl | rfl | rfl <;> decide))
      have B6 : Below w.heap.size w w6 := hb.trans (f6.below (by rintro j (rfl | rfl | rfl); exact Nat.le_refl _; exact Nat.le_refl _; exact Nat.le_refl _) hb.size)
      have H6 := Lib.hid h6
      have HB6 := Lib.hid hB6
      have e60 := hB6.e.cellv (j := 0) (v := .iface U (.pointer (some ⟨u, 0, none⟩))) rfl
      have e61 := hB6.e.cellv (j := 1) (v := .int .i32 0) rfl
      clear h6 f6 hB6 HB HSS HCC hb e0 e1 t0 t1
      go_wp2_with fail
      refine (ign20 p w.heap.size w.heap.size 0 w.heap.size n k i _ dead false false _ _ _ _ _ H6.out hC6.out).mono ?_
      rintro e w7 ⟨rfl, h7, f7⟩
      obtain ⟨G1, cnt1, hG1, _⟩ := H6.out
      have B7 : Below w.heap.size w w7 := B6.trans (f7.below (by rintro j (rfl | rfl | rfl); exact Nat.le_refl _; exact Nat.le_refl _; exact Nat.le_refl _) B6.size)
      have HB7 := Lib.hid (HB6.out.kept (w' := w7) fun j hj => by
        rcases hj with rfl | rfl | rfl
        · exact row_fr hG1 (fun _ => rfl) f7 HB6.out.t (by decide)
        · exact row_fr hG1 (fun _ => rfl) f7 HB6.out.o (by decide)
        · exact row_fr hG1 (fun _ => rfl) f7 HB6.out.e (by decide))
      have H7 := Lib.hid h7
      clear h7 f7 hG1 H6 HB6 hC6 B6 e60 e61
      go_wp2_with fail
      refine (syms21 p w.heap.size w.heap.size 0 w.heap.size n dead false false _ _ _ _ _ H7.out).mono ?_
      rintro e w8 ⟨rfl, rfl⟩
      go_wp2_with fail
      go_loopw [24] (fun v24 wr => ∃ j : Nat, j ≤ n ∧ v24 = .int .i64 j ∧ Bx wr w1.heap.size (w1.heap.size + 1) w4.heap.size k (.iface U (.pointer (some ⟨u, 0, none⟩))) ∧ St wr p w.heap.size w.heap.size 0 w.heap.size n dead false false (fun i => z.getD i 0) (fun _ => 0) (fun _ => none) 0 ∧ Below w.heap.size w wr) (fun v24 _ => n - (intOf v24).toNat)
      case atStart => exact ⟨0, Nat.zero_le _, rfl, HB7.out, H7.out, B7⟩
      case round =>
        obtain ⟨j, hj, rfl, hB8, hS8, hb8⟩ := hrel
        have HB8 := Lib.hid hB8
        have HS8 := Lib.hid hS8
        clear hB8 hS8 HB7 H7 B7
        by_cases hlt : j < n
        · have c8 := HS8.out.Sy.cell hlt
          have x8 := later (HC.out j hlt) hb8
          obtain ⟨y, hy⟩ : ∃ y, z.getD j 0 = y := ⟨_, rfl⟩
          simp only [hy] at c8 x8
          clear hy
          go_wp2_with fail
          go_quiet (fail)
          go_wp2_with fail
          go_roundw
          case rel => exact ⟨j + 1, by omega, by go_num, HB8.out.later (fun _ _ => rfl), HS8.out.later (fun _ _ => rfl), ⟨hb8.os, hb8.tape, hb8.output, hb8.size, hb8.block⟩⟩
          case measure => simp [intOf]; omega
        · obtain rfl : j = n := by omega
          clear hlt
          go_wp2_with fail
          go_ret
          exact ⟨rfl, hb8⟩

theorem walk_nn (x : Addr) (n c k len2 cap2 : Nat) (z z2 : List Int) (dead : Bool) (partHas : Bool) (pc : Int) (w : World) (hn1 : 1 ≤ n) (hn2 : n ≤ 65536) (hk : k < n) (hl2 : len2 ≤ 0) (hsum : 4 * n + len2 ≤ 1048576) (hp0 : 0 ≤ pc) (hp1 : pc ≤ 4294967295)
    (hcell : ∀ i, i < n → w.cell? (x.add i) = some (.int .u32 (z.getD i 0))) (hwf : ∀ i, i < n → 0 ≤ z.getD i 0 ∧ z.getD i 0 ≤ 4294967295) :
    Calls Try.prog 4 #[.slice (some x) n c, .int .i64 k, .slice none len2 cap2, .bool dead, .bool false, .bool partHas, .int .u32 pc] w fun e w' => e = .returned (.bool true) ∧ Below w.heap.size w w' := by
  have HC := Lib.hid hcell
  have HW := Lib.hid hwf
  clear hcell hwf
  have hmm := @run_makeMap Try.prog
  have hn0 : ((n : Int) == 0) = false := by simp; omega
  go_enter Try.func4, Try.ntmps4
  go_wp2_with fail
  refine (zz13 _ _ _ _ _ _ _ _ _ _ _ _ (by omega) (by omega) (by omega)).mono ?_
  rintro e w0 ⟨rfl, rfl⟩
  go_wp2_with fail
  refine (count14 x n c z _ (by omega) HC.out).mono ?_
  rintro e w1 ⟨rfl, hS, b1⟩
  have z1 : w.heap.size < w1.heap.size := hS.lt
  have HS := Lib.hid hS
  clear hS
  go_wp2_with fail
  refine (new15 w.heap.size n 0 dead false _).mono ?_
  rintro e w3 ⟨p, rfl, hP, b3⟩
  have rt : RowAt w3 w1.heap.size #[.int .u32 0, .int .u32 k] 37 := ((RowAt.new _ _ _).alloc _).below b3 (by go_size)
  have ro : RowAt w3 (w1.heap.size + 1) #[.int .u32 7, .int .u32 k] 37 := (RowAt.newAt (by go_size)).below b3 (by go_size)
  have b13 : Below w1.heap.size w1 w3 := Below.trans (by go_grown) (b3.mono (by go_size))
  have HST : Hid (St w3 p w.heap.size w.heap.size 0 w.heap.size n dead false false (fun i => z.getD i 0) (fun _ => 0) (fun _ => none) 0) := ⟨hP, HS.out.kept (b13.block _ z1), (fun e => by cases e), (fun e => by cases e)⟩
  clear hP HS
  have B3 : Below w.heap.size w w3 := b1.trans (b13.mono b1.size)
  clear b3 b13 b1
  have HRT3 := Lib.hid rt
  have HRO3 := Lib.hid ro
  have t30 := rt.cellv (j := 0) (v := .int .u32 0) rfl
  have t31 := rt.cellv (j := 1) (v := .int .u32 k) rfl
  clear rt ro
  go_wp2_with fail
  refine (ident16 k _).mono ?_
  rintro e w4 ⟨d0, rfl, hC4, b4⟩
  obtain ⟨U4, u4, rfl⟩ := hC4.one
  have HC4 := Lib.hid hC4
  have st4 := Lib.hid (HST.out.later (fun j hj => b4.block j hj))
  have rt4 := Lib.hid (HRT3.out.below b4 HRT3.out.lt)
  have ro4 := Lib.hid (HRO3.out.below b4 HRO3.out.lt)
  have B4 : Below w.heap.size w w4 := B3.trans (b4.mono B3.size)
  clear hC4 b4 B3 HST HRT3 HRO3 t30 t31
  have z4 := B4.size
  go_wp2_with fail
  go_loopw [22] (fun v22 wr => ∃ (i : Nat) (d : Value), i ≤ len2 ∧ v22 = .int .i64 i ∧ Ch wr k i d ∧ Bx wr w1.heap.size (w1.heap.size + 1) w4.heap.size k d ∧ St wr p w.heap.size w.heap.size 0 w.heap.size n dead false false (fun i => z.getD i 0) (fun _ => 0) (fun _ => none) 0 ∧ Below w.heap.size w wr) (fun v22 _ => len2 - (intOf v22).toNat)
  case atStart => exact ⟨0, _, Nat.zero_le _, rfl, HC4.out.later (fun j hj => Below.heap_alloc _ _ _ hj), ⟨rt4.out.alloc _, ro4.out.alloc _, RowAt.new _ _ _⟩, st4.out.later (fun j hj => Below.heap_alloc _ _ _ hj), by go_grown⟩
  case round =>
    obtain ⟨i, d, hi, rfl, hC, hB, hS, hb⟩ := hrel
    obtain ⟨U, u, rfl⟩ := hC.one
    have HCC := Lib.hid hC
    have HB := Lib.hid hB
    have HSS := Lib.hid hS
    have e0 := hB.e.cellv (j := 0) (v := .iface U (.pointer (some ⟨u, 0, none⟩))) rfl
    have e1 := hB.e.cellv (j := 1) (v := .int .i32 0) rfl
    clear hC hB hS HC4 st4 rt4 ro4 B4
    by_cases hlt : i < len2
    · exact absurd hlt (by omega)
    · obtain rfl : i = len2 := by omega
      clear hlt
      have t0 := HB.out.t.cellv (j := 0) (v := .int .u32 0) rfl
      have t1 := HB.out.t.cellv (j := 1) (v := .int .u32 k) rfl
      go_wp2_with fail
      refine (rec19 p w.heap.size w.heap.size 0 w.heap.size n k dead false _ _ _ _ 0 _ hk (by omega) HSS.out (fun e => by cases e) (by omega) (by omega) (HW.out k hk).1 (HW.out k hk).2).mono ?_
      rintro e w6 ⟨rfl, h6, f6⟩
      have hB6 : Bx w6 w1.heap.size (w1.heap.size + 1) w4.heap.size k _ := HB.out.kept fun j hj => by
        rcases hj with rfl | rfl | rfl
        · exact row_fr HSS.out (fun _ => rfl) f6 HB.out.t (by decide)
        · exact row_fr HSS.out (fun _ => rfl) f6 HB.out.o (by decide)
        · exact row_fr HSS.out (fun _ => rfl) f6 HB.out.e (by decide)
      have hC6 := Lib.hid (HCC.out.kept fun j cs t hr ht => row_fr HSS.out (fun _ => rfl) f6 hr (by rcases ht with rfl | rfl | rfl <;> decide))
      have B6 : Below w.heap.size w w6 := hb.trans (f6.below (by rintro j (rfl | rfl | rfl); exact Nat.le_refl _; exact Nat.le_refl _; exact Nat.le_refl _) hb.size)
      have H6 := Lib.hid h6
      have HB6 := Lib.hid hB6
      have e60 := hB6.e.cellv (j := 0) (v := .iface U (.pointer (some ⟨u, 0, none⟩))) rfl
      have e61 := hB6.e.cellv (j := 1) (v := .int .i32 0) rfl
      clear h6 f6 hB6 HB HSS HCC hb e0 e1 t0 t1
      go_wp2_with fail
      refine (ign20 p w.heap.size w.heap.size 0 w.heap.size n k i _ dead false false _ _ _ _ _ H6.out hC6.out).mono ?_
      rintro e w7 ⟨rfl, h7, f7⟩
      obtain ⟨G1, cnt1, hG1, _⟩ := H6.out
      have B7 : Below w.heap.size w w7 := B6.trans (f7.below (by rintro j (rfl | rfl | rfl); exact Nat.le_refl _; exact Nat.le_refl _; exact Nat.le_refl _) B6.size)
      have HB7 := Lib.hid (HB6.out.kept (w' := w7) fun j hj => by
        rcases hj with rfl | rfl | rfl
        · exact row_fr hG1 (fun _ => rfl) f7 HB6.out.t (by decide)
        · exact row_fr hG1 (fun _ => rfl) f7 HB6.out.o (by decide)
        · exact row_fr hG1 (fun _ => rfl) f7 HB6.out.e (by decide))
      have H7 := Lib.hid h7
      clear h7 f7 hG1 H6 HB6 hC6 B6 e60 e61
      go_wp2_with fail
      refine (syms21 p w.heap.size w.heap.size 0 w.heap.size n dead false false _ _ _ _ _ H7.out).mono ?_
      rintro e w8 ⟨rfl, rfl⟩
      go_wp2_with fail
      go_loopw [24] (fun v24 wr => ∃ j : Nat, j ≤ n ∧ v24 = .int .i64 j ∧ Bx wr w1.heap.size (w1.heap.size + 1) w4.heap.size k (.iface U (.pointer (some ⟨u, 0, none⟩))) ∧ St wr p w.heap.size w.heap.size 0 w.heap.size n dead false false (fun i => z.getD i 0) (fun _ => 0) (fun _ => none) 0 ∧ Below w.heap.size w wr) (fun v24 _ => n - (intOf v24).toNat)
      case atStart => exact ⟨0, Nat.zero_le _, rfl, HB7.out, H7.out, B7⟩
      case round =>
        obtain ⟨j, hj, rfl, hB8, hS8, hb8⟩ := hrel
        have HB8 := Lib.hid hB8
        have HS8 := Lib.hid hS8
        clear hB8 hS8 HB7 H7 B7
        by_cases hlt : j < n
        · have c8 := HS8.out.Sy.cell hlt
          have x8 := later (HC.out j hlt) hb8
          obtain ⟨y, hy⟩ : ∃ y, z.getD j 0 = y := ⟨_, rfl⟩
          simp only [hy] at c8 x8
          clear hy
          go_wp2_with fail
          go_quiet (fail)
          go_wp2_with fail
          go_roundw
          case rel => exact ⟨j + 1, by omega, by go_num, HB8.out.later (fun _ _ => rfl), HS8.out.later (fun _ _ => rfl), ⟨hb8.os, hb8.tape, hb8.output, hb8.size, hb8.block⟩⟩
          case measure => simp [intOf]; omega
        · obtain rfl : j = n := by omega
          clear hlt
          go_wp2_with fail
          go_ret
          exact ⟨rfl, hb8⟩

theorem walk_as (x : Addr) (y2 : Addr) (n c k len2 cap2 : Nat) (z z2 : List Int) (dead : Bool) (pc : Int) (w : World) (hn1 : 1 ≤ n) (hn2 : n ≤ 65536) (hk : k < n) (hl2 : len2 ≤ 65536) (hsum : 4 * n + len2 ≤ 1048576) (hp0 : 0 ≤ pc) (hp1 : pc ≤ 4294967295)
    (hcell : ∀ i, i < n → w.cell? (x.add i) = some (.int .u32 (z.getD i 0))) (hwf : ∀ i, i < n → 0 ≤ z.getD i 0 ∧ z.getD i 0 ≤ 4294967295) (hstep : ∀ i, i < len2 → w.cell? (y2.add i) = some (.int .u8 (z2.getD i 0))) (hsw : ∀ i, i < len2 → 0 ≤ z2.getD i 0 ∧ z2.getD i 0 ≤ 255) :
    Calls Try.prog 4 #[.slice (some x) n c, .int .i64 k, .slice (some y2) len2 cap2, .bool dead, .bool true, .bool false, .int .u32 pc] w fun e w' => e = .returned (.bool true) ∧ Below w.heap.size w w' := by
  have HC := Lib.hid hcell
  have HW := Lib.hid hwf
  have HST2 := Lib.hid hstep
  have HSW := Lib.hid hsw
  clear hcell hwf hstep hsw
  have hmm := @run_makeMap Try.prog
  have hn0 : ((n : Int) == 0) = false := by simp; omega
  go_enter Try.func4, Try.ntmps4
  go_wp2_with fail
  refine (zz13 _ _ _ _ _ _ _ _ _ _ _ _ (by omega) (by omega) (by omega)).mono ?_
  rintro e w0 ⟨rfl, rfl⟩
  go_wp2_with fail
  refine (count14 x n c z _ (by omega) HC.out).mono ?_
  rintro e w1 ⟨rfl, hS, b1⟩
  have z1 : w.heap.size < w1.heap.size := hS.lt
  have HS := Lib.hid hS
  clear hS
  go_wp2_with (at_mapUpdate; refine wpList_putN rfl (.tmp 85) (.tmp 86) (.tmp 87) 39 rfl 37 41 keyR Try.underlying39 (w1.heap.size + 1 + 1) 0 1 (fun _ => none) rfl (MapIs.newAt IsPair (by go_size)) (otherV k) _ rfl rfl (otherV_pair k) rfl ?_)
  intro w2 hM2 hT2
  have s2 : w1.heap.size + 1 + 1 + 1 ≤ w2.heap.size := by have := hT2.size; simp only [World.size_alloc] at this; omega
  have b12 : Below w1.heap.size w1 w2 := Below.trans (by go_grown) (hT2.below (by omega))
  have rt2 : RowAt w2 w1.heap.size #[.int .u32 0, .int .u32 k] 37 := hT2.row (((RowAt.new w1 _ _).alloc _).alloc _) (by omega)
  have ro2 : RowAt w2 (w1.heap.size + 1) #[.int .u32 7, .int .u32 k] 37 := hT2.row ((RowAt.newAt (by go_size)).alloc _) (by omega)
  have hMo : MapIs w2 (w1.heap.size + 1 + 1) IsPair (Fo k) 1 := hM2
  have t0 := rt2.cellv (j := 0) (v := .int .u32 0) rfl
  have t1 := rt2.cellv (j := 1) (v := .int .u32 k) rfl
  clear hT2 hM2
  have HRT := Lib.hid rt2
  have HRO := Lib.hid ro2
  have HMM := Lib.hid hMo
  clear rt2 ro2 hMo
  go_wp2_with fail
  refine (new15 w.heap.size n w2.heap.size dead true _).mono ?_
  rintro e w3 ⟨p, rfl, hP, b3⟩
  have rt := (HRT.out.alloc _).below b3 (by have := HRT.out.lt; simp; omega)
  have ro := (HRO.out.alloc _).below b3 (by have := HRO.out.lt; simp; omega)
  have rq := (RowAt.new w2 #[.slice none 0 0, .slice none 0 0, .slice none 0 0, .slice none 0 0, .map (some (w1.heap.size + 1 + 1)), .map none, .map none, .slice none 0 0, .bool false, .bool false, .bool false] 49).below b3 (by simp)
  have rm := (HMM.out.alloc _).below b3 (by have := HMM.out.lt; simp; omega)
  have b13 : Below w1.heap.size w1 w3 := b12.trans (Below.trans ((Below.refl _ _).alloc b12.size _) (b3.mono (by have := b12.size; simp; omega)))
  have HST : Hid (St w3 p w.heap.size w.heap.size w2.heap.size (w1.heap.size + 1 + 1) n dead false true (fun i => z.getD i 0) (fun _ => 0) (Fo k) 1) := by
    exact ⟨hP, HS.out.kept (b13.block _ z1), (fun e => by cases e), fun _ => ⟨⟨_, rq, rfl⟩, rm⟩⟩
  have hMge : w.heap.size ≤ w1.heap.size + 1 + 1 := by omega
  clear rq rm HMM HRT HRO
  clear hP HS
  have B3 : Below w.heap.size w w3 := b1.trans (b13.mono b1.size)
  clear b3 b13 b1
  have HRT3 := Lib.hid rt
  have HRO3 := Lib.hid ro
  have t30 := rt.cellv (j := 0) (v := .int .u32 0) rfl
  have t31 := rt.cellv (j := 1) (v := .int .u32 k) rfl
  clear rt ro
  go_wp2_with fail
  refine (ident16 k _).mono ?_
  rintro e w4 ⟨d0, rfl, hC4, b4⟩
  obtain ⟨U4, u4, rfl⟩ := hC4.one
  have HC4 := Lib.hid hC4
  have st4 := Lib.hid (HST.out.later (fun j hj => b4.block j hj))
  have rt4 := Lib.hid (HRT3.out.below b4 HRT3.out.lt)
  have ro4 := Lib.hid (HRO3.out.below b4 HRO3.out.lt)
  have B4 : Below w.heap.size w w4 := B3.trans (b4.mono B3.size)
  clear hC4 b4 B3 HST HRT3 HRO3 t30 t31
  have z4 := B4.size
  go_wp2_with fail
  go_loopw [22] (fun v22 wr => ∃ (i : Nat) (d : Value), i ≤ len2 ∧ v22 = .int .i64 i ∧ Ch wr k i d ∧ Bx wr w1.heap.size (w1.heap.size + 1) w4.heap.size k d ∧ St wr p w.heap.size w.heap.size w2.heap.size (w1.heap.size + 1 + 1) n dead false true (fun i => z.getD i 0) (fun _ => 0) (Fo k) 1 ∧ Below w.heap.size w wr) (fun v22 _ => len2 - (intOf v22).toNat)
  case atStart => exact ⟨0, _, Nat.zero_le _, rfl, HC4.out.later (fun j hj => Below.heap_alloc _ _ _ hj), ⟨rt4.out.alloc _, ro4.out.alloc _, RowAt.new _ _ _⟩, st4.out.later (fun j hj => Below.heap_alloc _ _ _ hj), by go_grown⟩
  case round =>
    obtain ⟨i, d, hi, rfl, hC, hB, hS, hb⟩ := hrel
    obtain ⟨U, u, rfl⟩ := hC.one
    have HCC := Lib.hid hC
    have HB := Lib.hid hB
    have HSS := Lib.hid hS
    have e0 := hB.e.cellv (j := 0) (v := .iface U (.pointer (some ⟨u, 0, none⟩))) rfl
    have e1 := hB.e.cellv (j := 1) (v := .int .i32 0) rfl
    clear hC hB hS HC4 st4 rt4 ro4 B4
    by_cases hlt : i < len2
    · have hc := later (HST2.out i hlt) hb
      obtain ⟨s, hs⟩ : ∃ s, z2.getD i 0 = s := ⟨_, rfl⟩
      have hsw := HSW.out i hlt
      rw [hs] at hc hsw
      clear hs
      by_cases h2 : s % 2 = 0
      · have h2' : (s % 2 == 0) = true := by simpa using h2
        clear h2
        go_wp2_with fail
        refine (dot17 k i _ _ HCC.out).mono ?_
        rintro e w5 ⟨d5, rfl, hC5, b5⟩
        obtain ⟨V, v, rfl⟩ := hC5.one
        have hB5 := HB.out.later (fun j hj => b5.block j hj)
        have hS5 := Lib.hid (HSS.out.later (fun j hj => b5.block j hj))
        have q0 := hB5.e.cellv (j := 0) (v := .iface U (.pointer (some ⟨u, 0, none⟩))) rfl
        have q1 := hB5.e.cellv (j := 1) (v := .int .i32 0) rfl
        have g0 := hB5.e.frozen 0
        have g1 := hB5.e.frozen 1
        have HB5 := Lib.hid hB5
        have HC5 := Lib.hid hC5
        have b5' : Below w.heap.size w w5 := hb.trans (b5.mono hb.size)
        have l5 := hB5.e.lt
        clear hB5 hC5 b5
        go_wp2_with fail
        go_roundw
        case rel =>
          refine ⟨i + 1, _, by omega, by go_num, HC5.out.kept (fun j cs t hr ht => ?_), HB5.out.store, hS5.out.other HB5.out.e (by decide) (fun j hj => by rw [Below.heap_setCell _ _ _ _ hj, Below.heap_setCell _ _ _ _ hj]), by go_grown⟩
          have hne : j ≠ w4.heap.size := hr.ne HB5.out.e (by rcases ht with rfl | rfl | rfl <;> decide)
          rw [Below.heap_setCell _ _ _ _ hne, Below.heap_setCell _ _ _ _ hne]
        case measure => simp [intOf]; omega
      · have h2' : (s % 2 == 0) = false := by simpa using h2
        clear h2
        go_wp2_with fail
        refine (idx18 k i _ _ HCC.out).mono ?_
        rintro e w5 ⟨d5, rfl, hC5, b5⟩
        obtain ⟨V, v, rfl⟩ := hC5.one
        have hB5 := HB.out.later (fun j hj => b5.block j hj)
        have hS5 := Lib.hid (HSS.out.later (fun j hj => b5.block j hj))
        have q0 := hB5.e.cellv (j := 0) (v := .iface U (.pointer (some ⟨u, 0, none⟩))) rfl
        have q1 := hB5.e.cellv (j := 1) (v := .int .i32 0) rfl
        have g0 := hB5.e.frozen 0
        have g1 := hB5.e.frozen 1
        have HB5 := Lib.hid hB5
        have HC5 := Lib.hid hC5
        have b5' : Below w.heap.size w w5 := hb.trans (b5.mono hb.size)
        have l5 := hB5.e.lt
        clear hB5 hC5 b5
        go_wp2_with fail
        go_roundw
        case rel =>
          refine ⟨i + 1, _, by omega, by go_num, HC5.out.kept (fun j cs t hr ht => ?_), HB5.out.store, hS5.out.other HB5.out.e (by decide) (fun j hj => by rw [Below.heap_setCell _ _ _ _ hj, Below.heap_setCell _ _ _ _ hj]), by go_grown⟩
          have hne : j ≠ w4.heap.size := hr.ne HB5.out.e (by rcases ht with rfl | rfl | rfl <;> decide)
          rw [Below.heap_setCell _ _ _ _ hne, Below.heap_setCell _ _ _ _ hne]
        case measure => simp [intOf]; omega
    · obtain rfl : i = len2 := by omega
      clear hlt
      have t0 := HB.out.t.cellv (j := 0) (v := .int .u32 0) rfl
      have t1 := HB.out.t.cellv (j := 1) (v := .int .u32 k) rfl
      go_wp2_with fail
      refine (rec19 p w.heap.size w.heap.size w2.heap.size (w1.heap.size + 1 + 1) n k dead true _ _ _ _ 0 _ hk (by omega) HSS.out (fun _ => by rw [Fo_t]; rfl) (by omega) (by omega) (HW.out k hk).1 (HW.out k hk).2).mono ?_
      rintro e w6 ⟨rfl, h6, f6⟩
      have hB6 : Bx w6 w1.heap.size (w1.heap.size + 1) w4.heap.size k _ := HB.out.kept fun j hj => by
        rcases hj with rfl | rfl | rfl
        · exact row_fr HSS.out (fun e => by cases e) f6 HB.out.t (by decide)
        · exact row_fr HSS.out (fun e => by cases e) f6 HB.out.o (by decide)
        · exact row_fr HSS.out (fun e => by cases e) f6 HB.out.e (by decide)
      have hC6 := Lib.hid (HCC.out.kept fun j cs t hr ht => row_fr HSS.out (fun e => by cases e) f6 hr (by rcases ht with rfl | rfl | rfl <;> decide))
      have B6 : Below w.heap.size w w6 := hb.trans (f6.below (by rintro j (rfl | rfl | rfl); exact Nat.le_refl _; exact Nat.le_refl _; exact hMge) hb.size)
      have H6 := Lib.hid h6
      have HB6 := Lib.hid hB6
      have e60 := hB6.e.cellv (j := 0) (v := .iface U (.pointer (some ⟨u, 0, none⟩))) rfl
      have e61 := hB6.e.cellv (j := 1) (v := .int .i32 0) rfl
      clear h6 f6 hB6 HB HSS HCC hb e0 e1 t0 t1
      go_wp2_with fail
      refine (ign20 p w.heap.size w.heap.size w2.heap.size (w1.heap.size + 1 + 1) n k i _ dead false true _ _ _ _ _ H6.out hC6.out).mono ?_
      rintro e w7 ⟨rfl, h7, f7⟩
      obtain ⟨G1, cnt1, hG1, _⟩ := H6.out
      have B7 : Below w.heap.size w w7 := B6.trans (f7.below (by rintro j (rfl | rfl | rfl); exact Nat.le_refl _; exact Nat.le_refl _; exact hMge) B6.size)
      have HB7 := Lib.hid (HB6.out.kept (w' := w7) fun j hj => by
        rcases hj with rfl | rfl | rfl
        · exact row_fr hG1 (fun e => by cases e) f7 HB6.out.t (by decide)
        · exact row_fr hG1 (fun e => by cases e) f7 HB6.out.o (by decide)
        · exact row_fr hG1 (fun e => by cases e) f7 HB6.out.e (by decide))
      have H7 := Lib.hid h7
      clear h7 f7 hG1 H6 HB6 hC6 B6 e60 e61
      go_wp2_with fail
      refine (syms21 p w.heap.size w.heap.size w2.heap.size (w1.heap.size + 1 + 1) n dead false true _ _ _ _ _ H7.out).mono ?_
      rintro e w8 ⟨rfl, rfl⟩
      go_wp2_with fail
      go_loopw [24] (fun v24 wr => ∃ j : Nat, j ≤ n ∧ v24 = .int .i64 j ∧ Bx wr w1.heap.size (w1.heap.size + 1) w4.heap.size k (.iface U (.pointer (some ⟨u, 0, none⟩))) ∧ St wr p w.heap.size w.heap.size w2.heap.size (w1.heap.size + 1 + 1) n dead false true (fun i => z.getD i 0) (fun _ => 0) (Fo k) 1 ∧ Below w.heap.size w wr) (fun v24 _ => n - (intOf v24).toNat)
      case atStart => exact ⟨0, Nat.zero_le _, rfl, HB7.out, H7.out, B7⟩
      case round =>
        obtain ⟨j, hj, rfl, hB8, hS8, hb8⟩ := hrel
        have HB8 := Lib.hid hB8
        have HS8 := Lib.hid hS8
        clear hB8 hS8 HB7 H7 B7
        by_cases hlt : j < n
        · have c8 := HS8.out.Sy.cell hlt
          have x8 := later (HC.out j hlt) hb8
          obtain ⟨y, hy⟩ : ∃ y, z.getD j 0 = y := ⟨_, rfl⟩
          simp only [hy] at c8 x8
          clear hy
          go_wp2_with fail
          go_quiet (fail)
          go_wp2_with fail
          go_roundw
          case rel => exact ⟨j + 1, by omega, by go_num, HB8.out.later (fun _ _ => rfl), HS8.out.later (fun _ _ => rfl), ⟨hb8.os, hb8.tape, hb8.output, hb8.size, hb8.block⟩⟩
          case measure => simp [intOf]; omega
        · obtain rfl : j = n := by omega
          clear hlt
          obtain ⟨⟨us, u1, u2⟩, u3⟩ := HS8.out.Pt rfl
          have d1 := u1.cellv u2
          have o0 := HB8.out.o.cellv (j := 0) (v := .int .u32 7) rfl
          have o1 := HB8.out.o.cellv (j := 1) (v := .int .u32 k) rfl
          have l1 : (Instr.lookup 39 (.map (some (w1.heap.size + 1 + 1))) (.agg #[.int .u32 7, .int .u32 k]) true).run Try.prog wr.drew = .ok (.tuple #[.agg #[.int .u32 5], .bool true]) wr.drew := by
            have := (u3.kept (w' := wr.drew) rfl).look keyR Try.underlying39 (zero41 wr.drew) (otherV_pair k) true
            rw [Fo_o] at this
            exact this
          have l2 : (Instr.lookup 39 (.map (some (w1.heap.size + 1 + 1))) (.agg #[.int .u32 7, .int .u32 k]) true).run Try.prog (wr.alloc (.cells #[.int .u32 0] 41)).drew = .ok (.tuple #[.agg #[.int .u32 5], .bool true]) (wr.alloc (.cells #[.int .u32 0] 41)).drew := by
            have := ((u3.alloc (.cells #[.int .u32 0] 41)).kept (w' := (wr.alloc (.cells #[.int .u32 0] 41)).drew) rfl).look keyR Try.underlying39 (zero41 _) (otherV_pair k) true
            rw [Fo_o] at this
            exact this
          have y1 : w2.heap.size < wr.heap.size := u1.lt
          have y2 : w1.heap.size + 1 < wr.heap.size := HB8.out.o.lt
          clear u1 u2 u3
          go_wp2_with fail
          go_region
          all_goals
            go_wp2_with fail
            have HB9 := HB8.out.later (w' := (wr.alloc (.cells #[.int .u32 5] 41)).drew) (fun j hj => Below.heap_alloc _ _ _ hj)
            have HS9 := HS8.out.later (w' := (wr.alloc (.cells #[.int .u32 5] 41)).drew) (fun j hj => Below.heap_alloc _ _ _ hj)
            have hb9 : Below w.heap.size w (wr.alloc (.cells #[.int .u32 5] 41)).drew := by go_grown
            clear d1 o0 o1 l1 l2 HB8 HS8 hb8 y1 y2
            generalize hW : (wr.alloc (.cells #[.int .u32 5] 41)).drew = W2 at HB9 HS9 hb9 ⊢
            clear hW
            obtain ⟨⟨us, u1, u2⟩, u3⟩ := HS9.Pt rfl
            have d1 := u1.cellv u2
            have o0 := HB9.t.cellv (j := 0) (v := .int .u32 0) rfl
            have o1 := HB9.t.cellv (j := 1) (v := .int .u32 k) rfl
            have l1 : (Instr.lookup 39 (.map (some (w1.heap.size + 1 + 1))) (.agg #[.int .u32 0, .int .u32 k]) true).run Try.prog W2.drew = .ok (.tuple #[.agg #[.int .u32 0], .bool false]) W2.drew := by
              have := (u3.kept (w' := W2.drew) rfl).look keyR Try.underlying39 (zero41 W2.drew) (refV_pair k) true
              rw [Fo_t] at this
              exact this
            have l2 : (Instr.lookup 39 (.map (some (w1.heap.size + 1 + 1))) (.agg #[.int .u32 0, .int .u32 k]) true).run Try.prog (W2.alloc (.cells #[.int .u32 0] 41)).drew = .ok (.tuple #[.agg #[.int .u32 0], .bool false]) (W2.alloc (.cells #[.int .u32 0] 41)).drew := by
              have := ((u3.alloc (.cells #[.int .u32 0] 41)).kept (w' := (W2.alloc (.cells #[.int .u32 0] 41)).drew) rfl).look keyR Try.underlying39 (zero41 _) (refV_pair k) true
              rw [Fo_t] at this
              exact this
            have m1 : ∀ ty, (Builtin.len_ #[39] ty #[.map (some (w1.heap.size + 1 + 1))]).run Try.prog (W2.alloc (.cells #[.int .u32 0] 41)).drew = .ok (.int .i64 (1 : Nat)) (W2.alloc (.cells #[.int .u32 0] 41)).drew := fun ty => ((u3.alloc (.cells #[.int .u32 0] 41)).kept (w' := (W2.alloc (.cells #[.int .u32 0] 41)).drew) rfl).len Try.underlying39
            have y1 : w2.heap.size < W2.heap.size := u1.lt
            have y2 : w1.heap.size < W2.heap.size := HB9.t.lt
            have z9 := hb9.size
            clear u1 u2 u3 HB9 HS9
            go_region
            all_goals
              go_wp2_with fail
              go_ret
              exact ⟨rfl, by go_grown⟩

theorem walk_an (x : Addr) (n c k len2 cap2 : Nat) (z z2 : List Int) (dead : Bool) (pc : Int) (w : World) (hn1 : 1 ≤ n) (hn2 : n ≤ 65536) (hk : k < n) (hl2 : len2 ≤ 0) (hsum : 4 * n + len2 ≤ 1048576) (hp0 : 0 ≤ pc) (hp1 : pc ≤ 4294967295)
    (hcell : ∀ i, i < n → w.cell? (x.add i) = some (.int .u32 (z.getD i 0))) (hwf : ∀ i, i < n → 0 ≤ z.getD i 0 ∧ z.getD i 0 ≤ 4294967295) :
    Calls Try.prog 4 #[.slice (some x) n c, .int .i64 k, .slice none len2 cap2, .bool dead, .bool true, .bool false, .int .u32 pc] w fun e w' => e = .returned (.bool true) ∧ Below w.heap.size w w' := by
  have HC := Lib.hid hcell
  have HW := Lib.hid hwf
  clear hcell hwf
  have hmm := @run_makeMap Try.prog
  have hn0 : ((n : Int) == 0) = false := by simp; omega
  go_enter Try.func4, Try.ntmps4
  go_wp2_with fail
  refine (zz13 _ _ _ _ _ _ _ _ _ _ _ _ (by omega) (by omega) (by omega)).mono ?_
  rintro e w0 ⟨rfl, rfl⟩
  go_wp2_with fail
  refine (count14 x n c z _ (by omega) HC.out).mono ?_
  rintro e w1 ⟨rfl, hS, b1⟩
  have z1 : w.heap.size < w1.heap.size := hS.lt
  have HS := Lib.hid hS
  clear hS
  go_wp2_with (at_mapUpdate; refine wpList_putN rfl (.tmp 85) (.tmp 86) (.tmp 87) 39 rfl 37 41 keyR Try.underlying39 (w1.heap.size + 1 + 1) 0 1 (fun _ => none) rfl (MapIs.newAt IsPair (by go_size)) (otherV k) _ rfl rfl (otherV_pair k) rfl ?_)
  intro w2 hM2 hT2
  have s2 : w1.heap.size + 1 + 1 + 1 ≤ w2.heap.size := by have := hT2.size; simp only [World.size_alloc] at this; omega
  have b12 : Below w1.heap.size w1 w2 := Below.trans (by go_grown) (hT2.below (by omega))
  have rt2 : RowAt w2 w1.heap.size #[.int .u32 0, .int .u32 k] 37 := hT2.row (((RowAt.new w1 _ _).alloc _).alloc _) (by omega)
  have ro2 : RowAt w2 (w1.heap.size + 1) #[.int .u32 7, .int .u32 k] 37 := hT2.row ((RowAt.newAt (by go_size)).alloc _) (by omega)
  have hMo : MapIs w2 (w1.heap.size + 1 + 1) IsPair (Fo k) 1 := hM2
  have t0 := rt2.cellv (j := 0) (v := .int .u32 0) rfl
  have t1 := rt2.cellv (j := 1) (v := .int .u32 k) rfl
  clear hT2 hM2
  have HRT := Lib.hid rt2
  have HRO := Lib.hid ro2
  have HMM := Lib.hid hMo
  clear rt2 ro2 hMo
  go_wp2_with fail
  refine (new15 w.heap.size n w2.heap.size dead true _).mono ?_
  rintro e w3 ⟨p, rfl, hP, b3⟩
  have rt := (HRT.out.alloc _).below b3 (by have := HRT.out.lt; simp; omega)
  have ro := (HRO.out.alloc _).below b3 (by have := HRO.out.lt; simp; omega)
  have rq := (RowAt.new w2 #[.slice none 0 0, .slice none 0 0, .slice none 0 0, .slice none 0 0, .map (some (w1.heap.size + 1 + 1)), .map none, .map none, .slice none 0 0, .bool false, .bool false, .bool false] 49).below b3 (by simp)
  have rm := (HMM.out.alloc _).below b3 (by have := HMM.out.lt; simp; omega)
  have b13 : Below w1.heap.size w1 w3 := b12.trans (Below.trans ((Below.refl _ _).alloc b12.size _) (b3.mono (by have := b12.size; simp; omega)))
  have HST : Hid (St w3 p w.heap.size w.heap.size w2.heap.size (w1.heap.size + 1 + 1) n dead false true (fun i => z.getD i 0) (fun _ => 0) (Fo k) 1) := by
    exact ⟨hP, HS.out.kept (b13.block _ z1), (fun e => by cases e), fun _ => ⟨⟨_, rq, rfl⟩, rm⟩⟩
  have hMge : w.heap.size ≤ w1.heap.size + 1 + 1 := by omega
  clear rq rm HMM HRT HRO
  clear hP HS
  have B3 : Below w.heap.size w w3 := b1.trans (b13.mono b1.size)
  clear b3 b13 b1
  have HRT3 := Lib.hid rt
  have HRO3 := Lib.hid ro
  have t30 := rt.cellv (j := 0) (v := .int .u32 0) rfl
  have t31 := rt.cellv (j := 1) (v := .int .u32 k) rfl
  clear rt ro
  go_wp2_with fail
  refine (ident16 k _).mono ?_
  rintro e w4 ⟨d0, rfl, hC4, b4⟩
  obtain ⟨U4, u4, rfl⟩ := hC4.one
  have HC4 := Lib.hid hC4
  have st4 := Lib.hid (HST.out.later (fun j hj => b4.block j hj))
  have rt4 := Lib.hid (HRT3.out.below b4 HRT3.out.lt)
  have ro4 := Lib.hid (HRO3.out.below b4 HRO3.out.lt)
  have B4 : Below w.heap.size w w4 := B3.trans (b4.mono B3.size)
  clear hC4 b4 B3 HST HRT3 HRO3 t30 t31
  have z4 := B4.size
  go_wp2_with fail
  go_loopw [22] (fun v22 wr => ∃ (i : Nat) (d : Value), i ≤ len2 ∧ v22 = .int .i64 i ∧ Ch wr k i d ∧ Bx wr w1.heap.size (w1.heap.size + 1) w4.heap.size k d ∧ St wr p w.heap.size w.heap.size w2.heap.size (w1.heap.size + 1 + 1) n dead false true (fun i => z.getD i 0) (fun _ => 0) (Fo k) 1 ∧ Below w.heap.size w wr) (fun v22 _ => len2 - (intOf v22).toNat)
  case atStart => exact ⟨0, _, Nat.zero_le _, rfl, HC4.out.later (fun j hj => Below.heap_alloc _ _ _ hj), ⟨rt4.out.alloc _, ro4.out.alloc _, RowAt.new _ _ _⟩, st4.out.later (fun j hj => Below.heap_alloc _ _ _ hj), by go_grown⟩
  case round =>
    obtain ⟨i, d, hi, rfl, hC, hB, hS, hb⟩ := hrel
    obtain ⟨U, u, rfl⟩ := hC.one
    have HCC := Lib.hid hC
    have HB := Lib.hid hB
    have HSS := Lib.hid hS
    have e0 := hB.e.cellv (j := 0) (v := .iface U (.pointer (some ⟨u, 0, none⟩))) rfl
    have e1 := hB.e.cellv (j := 1) (v := .int .i32 0) rfl
    clear hC hB hS HC4 st4 rt4 ro4 B4
    by_cases hlt : i < len2
    · exact absurd hlt (by omega)
    · obtain rfl : i = len2 := by omega
      clear hlt
      have t0 := HB.out.t.cellv (j := 0) (v := .int .u32 0) rfl
      have t1 := HB.out.t.cellv (j := 1) (v := .int .u32 k) rfl
      go_wp2_with fail
      refine (rec19 p w.heap.size w.heap.size w2.heap.size (w1.heap.size + 1 + 1) n k dead true _ _ _ _ 0 _ hk (by omega) HSS.out (fun _ => by rw [Fo_t]; rfl) (by omega) (by omega) (HW.out k hk).1 (HW.out k hk).2).mono ?_
      rintro e w6 ⟨rfl, h6, f6⟩
      have hB6 : Bx w6 w1.heap.size (w1.heap.size + 1) w4.heap.size k _ := HB.out.kept fun j hj => by
        rcases hj with rfl | rfl | rfl
        · exact row_fr HSS.out (fun e => by cases e) f6 HB.out.t (by decide)
        · exact row_fr HSS.out (fun e => by cases e) f6 HB.out.o (by decide)
        · exact row_fr HSS.out (fun e => by cases e) f6 HB.out.e (by decide)
      have hC6 := Lib.hid (HCC.out.kept fun j cs t hr ht => row_fr HSS.out (fun e => by cases e) f6 hr (by rcases ht with rfl | rfl | rfl <;> decide))
      have B6 : Below w.heap.size w w6 := hb.trans (f6.below (by rintro j (rfl | rfl | rfl); exact Nat.le_refl _; exact Nat.le_refl _; exact hMge) hb.size)
      have H6 := Lib.hid h6
      have HB6 := Lib.hid hB6
      have e60 := hB6.e.cellv (j := 0) (v := .iface U (.pointer (some ⟨u, 0, none⟩))) rfl
      have e61 := hB6.e.cellv (j := 1) (v := .int .i32 0) rfl
      clear h6 f6 hB6 HB HSS HCC hb e0 e1 t0 t1
      go_wp2_with fail
      refine (ign20 p w.heap.size w.heap.size w2.heap.size (w1.heap.size + 1 + 1) n k i _ dead false true _ _ _ _ _ H6.out hC6.out).mono ?_
      rintro e w7 ⟨rfl, h7, f7⟩
      obtain ⟨G1, cnt1, hG1, _⟩ := H6.out
      have B7 : Below w.heap.size w w7 := B6.trans (f7.below (by rintro j (rfl | rfl | rfl); exact Nat.le_refl _; exact Nat.le_refl _; exact hMge) B6.size)
      have HB7 := Lib.hid (HB6.out.kept (w' := w7) fun j hj => by
        rcases hj with rfl | rfl | rfl
        · exact row_fr hG1 (fun e => by cases e) f7 HB6.out.t (by decide)
        · exact row_fr hG1 (fun e => by cases e) f7 HB6.out.o (by decide)
        · exact row_fr hG1 (fun e => by cases e) f7 HB6.out.e (by decide))
      have H7 := Lib.hid h7
      clear h7 f7 hG1 H6 HB6 hC6 B6 e60 e61
      go_wp2_with fail
      refine (syms21 p w.heap.size w.heap.size w2.heap.size (w1.heap.size + 1 + 1) n dead false true _ _ _ _ _ H7.out).mono ?_
      rintro e w8 ⟨rfl, rfl⟩
      go_wp2_with fail
      go_loopw [24] (fun v24 wr => ∃ j : Nat, j ≤ n ∧ v24 = .int .i64 j ∧ Bx wr w1.heap.size (w1.heap.size + 1) w4.heap.size k (.iface U (.pointer (some ⟨u, 0, none⟩))) ∧ St wr p w.heap.size w.heap.size w2.heap.size (w1.heap.size + 1 + 1) n dead false true (fun i => z.getD i 0) (fun _ => 0) (Fo k) 1 ∧ Below w.heap.size w wr) (fun v24 _ => n - (intOf v24).toNat)
      case atStart => exact ⟨0, Nat.zero_le _, rfl, HB7.out, H7.out, B7⟩
      case round =>
        obtain ⟨j, hj, rfl, hB8, hS8, hb8⟩ := hrel
        have HB8 := Lib.hid hB8
        have HS8 := Lib.hid hS8
        clear hB8 hS8 HB7 H7 B7
        by_cases hlt : j < n
        · have c8 := HS8.out.Sy.cell hlt
          have x8 := later (HC.out j hlt) hb8
          obtain ⟨y, hy⟩ : ∃ y, z.getD j 0 = y := ⟨_, rfl⟩
          simp only [hy] at c8 x8
          clear hy
          go_wp2_with fail
          go_quiet (fail)
          go_wp2_with fail
          go_roundw
          case rel => exact ⟨j + 1, by omega, by go_num, HB8.out.later (fun _ _ => rfl), HS8.out.later (fun _ _ => rfl), ⟨hb8.os, hb8.tape, hb8.output, hb8.size, hb8.block⟩⟩
          case measure => simp [intOf]; omega
        · obtain rfl : j = n := by omega
          clear hlt
          obtain ⟨⟨us, u1, u2⟩, u3⟩ := HS8.out.Pt rfl
          have d1 := u1.cellv u2
          have o0 := HB8.out.o.cellv (j := 0) (v := .int .u32 7) rfl
          have o1 := HB8.out.o.cellv (j := 1) (v := .int .u32 k) rfl
          have l1 : (Instr.lookup 39 (.map (some (w1.heap.size + 1 + 1))) (.agg #[.int .u32 7, .int .u32 k]) true).run Try.prog wr.drew = .ok (.tuple #[.agg #[.int .u32 5], .bool true]) wr.drew := by
            have := (u3.kept (w' := wr.drew) rfl).look keyR Try.underlying39 (zero41 wr.drew) (otherV_pair k) true
            rw [Fo_o] at this
            exact this
          have l2 : (Instr.lookup 39 (.map (some (w1.heap.size + 1 + 1))) (.agg #[.int .u32 7, .int .u32 k]) true).run Try.prog (wr.alloc (.cells #[.int .u32 0] 41)).drew = .ok (.tuple #[.agg #[.int .u32 5], .bool true]) (wr.alloc (.cells #[.int .u32 0] 41)).drew := by
            have := ((u3.alloc (.cells #[.int .u32 0] 41)).kept (w' := (wr.alloc (.cells #[.int .u32 0] 41)).drew) rfl).look keyR Try.underlying39 (zero41 _) (otherV_pair k) true
            rw [Fo_o] at this
            exact this
          have y1 : w2.heap.size < wr.heap.size := u1.lt
          have y2 : w1.heap.size + 1 < wr.heap.size := HB8.out.o.lt
          clear u1 u2 u3
          go_wp2_with fail
          go_region
          all_goals
            go_wp2_with fail
            have HB9 := HB8.out.later (w' := (wr.alloc (.cells #[.int .u32 5] 41)).drew) (fun j hj => Below.heap_alloc _ _ _ hj)
            have HS9 := HS8.out.later (w' := (wr.alloc (.cells #[.int .u32 5] 41)).drew) (fun j hj => Below.heap_alloc _ _ _ hj)
            have hb9 : Below w.heap.size w (wr.alloc (.cells #[.int .u32 5] 41)).drew := by go_grown
            clear d1 o0 o1 l1 l2 HB8 HS8 hb8 y1 y2
            generalize hW : (wr.alloc (.cells #[.int .u32 5] 41)).drew = W2 at HB9 HS9 hb9 ⊢
            clear hW
            obtain ⟨⟨us, u1, u2⟩, u3⟩ := HS9.Pt rfl
            have d1 := u1.cellv u2
            have o0 := HB9.t.cellv (j := 0) (v := .int .u32 0) rfl
            have o1 := HB9.t.cellv (j := 1) (v := .int .u32 k) rfl
            have l1 : (Instr.lookup 39 (.map (some (w1.heap.size + 1 + 1))) (.agg #[.int .u32 0, .int .u32 k]) true).run Try.prog W2.drew = .ok (.tuple #[.agg #[.int .u32 0], .bool false]) W2.drew := by
              have := (u3.kept (w' := W2.drew) rfl).look keyR Try.underlying39 (zero41 W2.drew) (refV_pair k) true
              rw [Fo_t] at this
              exact this
            have l2 : (Instr.lookup 39 (.map (some (w1.heap.size + 1 + 1))) (.agg #[.int .u32 0, .int .u32 k]) true).run Try.prog (W2.alloc (.cells #[.int .u32 0] 41)).drew = .ok (.tuple #[.agg #[.int .u32 0], .bool false]) (W2.alloc (.cells #[.int .u32 0] 41)).drew := by
              have := ((u3.alloc (.cells #[.int .u32 0] 41)).kept (w' := (W2.alloc (.cells #[.int .u32 0] 41)).drew) rfl).look keyR Try.underlying39 (zero41 _) (refV_pair k) true
              rw [Fo_t] at this
              exact this
            have m1 : ∀ ty, (Builtin.len_ #[39] ty #[.map (some (w1.heap.size + 1 + 1))]).run Try.prog (W2.alloc (.cells #[.int .u32 0] 41)).drew = .ok (.int .i64 (1 : Nat)) (W2.alloc (.cells #[.int .u32 0] 41)).drew := fun ty => ((u3.alloc (.cells #[.int .u32 0] 41)).kept (w' := (W2.alloc (.cells #[.int .u32 0] 41)).drew) rfl).len Try.underlying39
            have y1 : w2.heap.size < W2.heap.size := u1.lt
            have y2 : w1.heap.size < W2.heap.size := HB9.t.lt
            have z9 := hb9.size
            clear u1 u2 u3 HB9 HS9
            go_region
            all_goals
              go_wp2_with fail
              go_ret
              exact ⟨rfl, by go_grown⟩

theorem walk_bs (x : Addr) (y2 : Addr) (n c k len2 cap2 : Nat) (z z2 : List Int) (dead : Bool) (pc : Int) (w : World) (hn1 : 1 ≤ n) (hn2 : n ≤ 65536) (hk : k < n) (hl2 : len2 ≤ 65536) (hsum : 4 * n + len2 ≤ 1048576) (hp0 : 0 ≤ pc) (hp1 : pc ≤ 4294967295) (hpc : 1 ≤ pc)
    (hcell : ∀ i, i < n → w.cell? (x.add i) = some (.int .u32 (z.getD i 0))) (hwf : ∀ i, i < n → 0 ≤ z.getD i 0 ∧ z.getD i 0 ≤ 4294967295) (hstep : ∀ i, i < len2 → w.cell? (y2.add i) = some (.int .u8 (z2.getD i 0))) (hsw : ∀ i, i < len2 → 0 ≤ z2.getD i 0 ∧ z2.getD i 0 ≤ 255) :
    Calls Try.prog 4 #[.slice (some x) n c, .int .i64 k, .slice (some y2) len2 cap2, .bool dead, .bool true, .bool true, .int .u32 pc] w fun e w' => e = .returned (.bool true) ∧ Below w.heap.size w w' := by
  have HC := Lib.hid hcell
  have HW := Lib.hid hwf
  have HST2 := Lib.hid hstep
  have HSW := Lib.hid hsw
  clear hcell hwf hstep hsw
  have hmm := @run_makeMap Try.prog
  have hn0 : ((n : Int) == 0) = false := by simp; omega
  have hpc0 : (pc == 0) = false := by simp; omega
  go_enter Try.func4, Try.ntmps4
  go_wp2_with fail
  refine (zz13 _ _ _ _ _ _ _ _ _ _ _ _ (by omega) (by omega) (by omega)).mono ?_
  rintro e w0 ⟨rfl, rfl⟩
  go_wp2_with fail
  refine (count14 x n c z _ (by omega) HC.out).mono ?_
  rintro e w1 ⟨rfl, hS, b1⟩
  have z1 : w.heap.size < w1.heap.size := hS.lt
  have HS := Lib.hid hS
  clear hS
  go_wp2_with (at_mapUpdate; refine wpList_putN rfl (.tmp 85) (.tmp 86) (.tmp 87) 39 rfl 37 41 keyR Try.underlying39 (w1.heap.size + 1 + 1) 0 1 (fun _ => none) rfl (MapIs.newAt IsPair (by go_size)) (otherV k) _ rfl rfl (otherV_pair k) rfl ?_)
  intro w2 hM2 hT2
  have s2 : w1.heap.size + 1 + 1 + 1 ≤ w2.heap.size := by have := hT2.size; simp only [World.size_alloc] at this; omega
  have b12 : Below w1.heap.size w1 w2 := Below.trans (by go_grown) (hT2.below (by omega))
  have rt2 : RowAt w2 w1.heap.size #[.int .u32 0, .int .u32 k] 37 := hT2.row (((RowAt.new w1 _ _).alloc _).alloc _) (by omega)
  have ro2 : RowAt w2 (w1.heap.size + 1) #[.int .u32 7, .int .u32 k] 37 := hT2.row ((RowAt.newAt (by go_size)).alloc _) (by omega)
  have hMo : MapIs w2 (w1.heap.size + 1 + 1) IsPair (Fo k) 1 := hM2
  have t0 := rt2.cellv (j := 0) (v := .int .u32 0) rfl
  have t1 := rt2.cellv (j := 1) (v := .int .u32 k) rfl
  clear hT2 hM2
  go_wp2_with (at_mapUpdate; refine wpList_putN rfl (.tmp 89) (.tmp 90) (.tmp 92) 39 rfl 37 41 keyR Try.underlying39 (w1.heap.size + 1 + 1) 1 2 (Fo k) rfl hMo (refV k) _ rfl rfl (refV_pair k) (cnt2 k) ?_)
  intro w22 hM2 hT2
  have s22 : w2.heap.size ≤ w22.heap.size := by rw [hT2.size]; exact Nat.le_refl _
  have b122 : Below w1.heap.size w1 w22 := b12.trans (hT2.below (by omega))
  have rt22 : RowAt w22 w1.heap.size #[.int .u32 0, .int .u32 k] 37 := hT2.row rt2 (by omega)
  have ro22 : RowAt w22 (w1.heap.size + 1) #[.int .u32 7, .int .u32 k] 37 := hT2.row ro2 (by omega)
  have hMt : MapIs w22 (w1.heap.size + 1 + 1) IsPair (Ft k pc) 2 := hM2
  clear hT2 hM2 t0 t1 rt2 ro2 hMo b12
  have HRT := Lib.hid rt22
  have HRO := Lib.hid ro22
  have HMM := Lib.hid hMt
  clear rt22 ro22 hMt
  go_wp2_with fail
  refine (new15 w.heap.size n w22.heap.size dead true _).mono ?_
  rintro e w3 ⟨p, rfl, hP, b3⟩
  have rt := (HRT.out.alloc _).below b3 (by have := HRT.out.lt; simp; omega)
  have ro := (HRO.out.alloc _).below b3 (by have := HRO.out.lt; simp; omega)
  have rq := (RowAt.new w22 #[.slice none 0 0, .slice none 0 0, .slice none 0 0, .slice none 0 0, .map (some (w1.heap.size + 1 + 1)), .map none, .map none, .slice none 0 0, .bool false, .bool false, .bool false] 49).below b3 (by simp)
  have rm := (HMM.out.alloc _).below b3 (by have := HMM.out.lt; simp; omega)
  have b13 : Below w1.heap.size w1 w3 := b122.trans (Below.trans ((Below.refl _ _).alloc b122.size _) (b3.mono (by have := b122.size; simp; omega)))
  have HST : Hid (St w3 p w.heap.size w.heap.size w22.heap.size (w1.heap.size + 1 + 1) n dead false true (fun i => z.getD i 0) (fun _ => 0) (Ft k pc) 2) := by
    exact ⟨hP, HS.out.kept (b13.block _ z1), (fun e => by cases e), fun _ => ⟨⟨_, rq, rfl⟩, rm⟩⟩
  have hMge : w.heap.size ≤ w1.heap.size + 1 + 1 := by omega
  clear rq rm HMM HRT HRO
  clear hP HS
  have B3 : Below w.heap.size w w3 := b1.trans (b13.mono b1.size)
  clear b3 b13 b1
  have HRT3 := Lib.hid rt
  have HRO3 := Lib.hid ro
  have t30 := rt.cellv (j := 0) (v := .int .u32 0) rfl
  have t31 := rt.cellv (j := 1) (v := .int .u32 k) rfl
  clear rt ro
  go_wp2_with fail
  refine (ident16 k _).mono ?_
  rintro e w4 ⟨d0, rfl, hC4, b4⟩
  obtain ⟨U4, u4, rfl⟩ := hC4.one
  have HC4 := Lib.hid hC4
  have st4 := Lib.hid (HST.out.later (fun j hj => b4.block j hj))
  have rt4 := Lib.hid (HRT3.out.below b4 HRT3.out.lt)
  have ro4 := Lib.hid (HRO3.out.below b4 HRO3.out.lt)
  have B4 : Below w.heap.size w w4 := B3.trans (b4.mono B3.size)
  clear hC4 b4 B3 HST HRT3 HRO3 t30 t31
  have z4 := B4.size
  go_wp2_with fail
  go_loopw [22] (fun v22 wr => ∃ (i : Nat) (d : Value), i ≤ len2 ∧ v22 = .int .i64 i ∧ Ch wr k i d ∧ Bx wr w1.heap.size (w1.heap.size + 1) w4.heap.size k d ∧ St wr p w.heap.size w.heap.size w22.heap.size (w1.heap.size + 1 + 1) n dead false true (fun i => z.getD i 0) (fun _ => 0) (Ft k pc) 2 ∧ Below w.heap.size w wr) (fun v22 _ => len2 - (intOf v22).toNat)
  case atStart => exact ⟨0, _, Nat.zero_le _, rfl, HC4.out.later (fun j hj => Below.heap_alloc _ _ _ hj), ⟨rt4.out.alloc _, ro4.out.alloc _, RowAt.new _ _ _⟩, st4.out.later (fun j hj => Below.heap_alloc _ _ _ hj), by go_grown⟩
  case round =>
    obtain ⟨i, d, hi, rfl, hC, hB, hS, hb⟩ := hrel
    obtain ⟨U, u, rfl⟩ := hC.one
    have HCC := Lib.hid hC
    have HB := Lib.hid hB
    have HSS := Lib.hid hS
    have e0 := hB.e.cellv (j := 0) (v := .iface U (.pointer (some ⟨u, 0, none⟩))) rfl
    have e1 := hB.e.cellv (j := 1) (v := .int .i32 0) rfl
    clear hC hB hS HC4 st4 rt4 ro4 B4
    by_cases hlt : i < len2
    · have hc := later (HST2.out i hlt) hb
      obtain ⟨s, hs⟩ : ∃ s, z2.getD i 0 = s := ⟨_, rfl⟩
      have hsw := HSW.out i hlt
      rw [hs] at hc hsw
      clear hs
      by_cases h2 : s % 2 = 0
      · have h2' : (s % 2 == 0) = true := by simpa using h2
        clear h2
        go_wp2_with fail
        refine (dot17 k i _ _ HCC.out).mono ?_
        rintro e w5 ⟨d5, rfl, hC5, b5⟩
        obtain ⟨V, v, rfl⟩ := hC5.one
        have hB5 := HB.out.later (fun j hj => b5.block j hj)
        have hS5 := Lib.hid (HSS.out.later (fun j hj => b5.block j hj))
        have q0 := hB5.e.cellv (j := 0) (v := .iface U (.pointer (some ⟨u, 0, none⟩))) rfl
        have q1 := hB5.e.cellv (j := 1) (v := .int .i32 0) rfl
        have g0 := hB5.e.frozen 0
        have g1 := hB5.e.frozen 1
        have HB5 := Lib.hid hB5
        have HC5 := Lib.hid hC5
        have b5' : Below w.heap.size w w5 := hb.trans (b5.mono hb.size)
        have l5 := hB5.e.lt
        clear hB5 hC5 b5
        go_wp2_with fail
        go_roundw
        case rel =>
          refine ⟨i + 1, _, by omega, by go_num, HC5.out.kept (fun j cs t hr ht => ?_), HB5.out.store, hS5.out.other HB5.out.e (by decide) (fun j hj => by rw [Below.heap_setCell _ _ _ _ hj, Below.heap_setCell _ _ _ _ hj]), by go_grown⟩
          have hne : j ≠ w4.heap.size := hr.ne HB5.out.e (by rcases ht with rfl | rfl | rfl <;> decide)
          rw [Below.heap_setCell _ _ _ _ hne, Below.heap_setCell _ _ _ _ hne]
        case measure => simp [intOf]; omega
      · have h2' : (s % 2 == 0) = false := by simpa using h2
        clear h2
        go_wp2_with fail
        refine (idx18 k i _ _ HCC.out).mono ?_
        rintro e w5 ⟨d5, rfl, hC5, b5⟩
        obtain ⟨V, v, rfl⟩ := hC5.one
        have hB5 := HB.out.later (fun j hj => b5.block j hj)
        have hS5 := Lib.hid (HSS.out.later (fun j hj => b5.block j hj))
        have q0 := hB5.e.cellv (j := 0) (v := .iface U (.pointer (some ⟨u, 0, none⟩))) rfl
        have q1 := hB5.e.cellv (j := 1) (v := .int .i32 0) rfl
        have g0 := hB5.e.frozen 0
        have g1 := hB5.e.frozen 1
        have HB5 := Lib.hid hB5
        have HC5 := Lib.hid hC5
        have b5' : Below w.heap.size w w5 := hb.trans (b5.mono hb.size)
        have l5 := hB5.e.lt
        clear hB5 hC5 b5
        go_wp2_with fail
        go_roundw
        case rel =>
          refine ⟨i + 1, _, by omega, by go_num, HC5.out.kept (fun j cs t hr ht => ?_), HB5.out.store, hS5.out.other HB5.out.e (by decide) (fun j hj => by rw [Below.heap_setCell _ _ _ _ hj, Below.heap_setCell _ _ _ _ hj]), by go_grown⟩
          have hne : j ≠ w4.heap.size := hr.ne HB5.out.e (by rcases ht with rfl | rfl | rfl <;> decide)
          rw [Below.heap_setCell _ _ _ _ hne, Below.heap_setCell _ _ _ _ hne]
        case measure => simp [intOf]; omega
    · obtain rfl : i = len2 := by omega
      clear hlt
      have t0 := HB.out.t.cellv (j := 0) (v := .int .u32 0) rfl
      have t1 := HB.out.t.cellv (j := 1) (v := .int .u32 k) rfl
      go_wp2_with fail
      refine (rec19 p w.heap.size w.heap.size w22.heap.size (w1.heap.size + 1 + 1) n k dead true _ _ _ _ pc _ hk (by omega) HSS.out (fun _ => by rw [Ft_t, if_neg (by omega)]) (by omega) (by omega) (HW.out k hk).1 (HW.out k hk).2).mono ?_
      rintro e w6 ⟨rfl, h6, f6⟩
      have hB6 : Bx w6 w1.heap.size (w1.heap.size + 1) w4.heap.size k _ := HB.out.kept fun j hj => by
        rcases hj with rfl | rfl | rfl
        · exact row_fr HSS.out (fun e => by cases e) f6 HB.out.t (by decide)
        · exact row_fr HSS.out (fun e => by cases e) f6 HB.out.o (by decide)
        · exact row_fr HSS.out (fun e => by cases e) f6 HB.out.e (by decide)
      have hC6 := Lib.hid (HCC.out.kept fun j cs t hr ht => row_fr HSS.out (fun e => by cases e) f6 hr (by rcases ht with rfl | rfl | rfl <;> decide))
      have B6 : Below w.heap.size w w6 := hb.trans (f6.below (by rintro j (rfl | rfl | rfl); exact Nat.le_refl _; exact Nat.le_refl _; exact hMge) hb.size)
      have H6 := Lib.hid h6
      have HB6 := Lib.hid hB6
      have e60 := hB6.e.cellv (j := 0) (v := .iface U (.pointer (some ⟨u, 0, none⟩))) rfl
      have e61 := hB6.e.cellv (j := 1) (v := .int .i32 0) rfl
      clear h6 f6 hB6 HB HSS HCC hb e0 e1 t0 t1
      go_wp2_with fail
      refine (ign20 p w.heap.size w.heap.size w22.heap.size (w1.heap.size + 1 + 1) n k i _ dead false true _ _ _ _ _ H6.out hC6.out).mono ?_
      rintro e w7 ⟨rfl, h7, f7⟩
      obtain ⟨G1, cnt1, hG1, _⟩ := H6.out
      have B7 : Below w.heap.size w w7 := B6.trans (f7.below (by rintro j (rfl | rfl | rfl); exact Nat.le_refl _; exact Nat.le_refl _; exact hMge) B6.size)
      have HB7 := Lib.hid (HB6.out.kept (w' := w7) fun j hj => by
        rcases hj with rfl | rfl | rfl
        · exact row_fr hG1 (fun e => by cases e) f7 HB6.out.t (by decide)
        · exact row_fr hG1 (fun e => by cases e) f7 HB6.out.o (by decide)
        · exact row_fr hG1 (fun e => by cases e) f7 HB6.out.e (by decide))
      have H7 := Lib.hid h7
      clear h7 f7 hG1 H6 HB6 hC6 B6 e60 e61
      go_wp2_with fail
      refine (syms21 p w.heap.size w.heap.size w22.heap.size (w1.heap.size + 1 + 1) n dead false true _ _ _ _ _ H7.out).mono ?_
      rintro e w8 ⟨rfl, rfl⟩
      go_wp2_with fail
      go_loopw [24] (fun v24 wr => ∃ j : Nat, j ≤ n ∧ v24 = .int .i64 j ∧ Bx wr w1.heap.size (w1.heap.size + 1) w4.heap.size k (.iface U (.pointer (some ⟨u, 0, none⟩))) ∧ St wr p w.heap.size w.heap.size w22.heap.size (w1.heap.size + 1 + 1) n dead false true (fun i => z.getD i 0) (fun _ => 0) (Ft k pc) 2 ∧ Below w.heap.size w wr) (fun v24 _ => n - (intOf v24).toNat)
      case atStart => exact ⟨0, Nat.zero_le _, rfl, HB7.out, H7.out, B7⟩
      case round =>
        obtain ⟨j, hj, rfl, hB8, hS8, hb8⟩ := hrel
        have HB8 := Lib.hid hB8
        have HS8 := Lib.hid hS8
        clear hB8 hS8 HB7 H7 B7
        by_cases hlt : j < n
        · have c8 := HS8.out.Sy.cell hlt
          have x8 := later (HC.out j hlt) hb8
          obtain ⟨y, hy⟩ : ∃ y, z.getD j 0 = y := ⟨_, rfl⟩
          simp only [hy] at c8 x8
          clear hy
          go_wp2_with fail
          go_quiet (fail)
          go_wp2_with fail
          go_roundw
          case rel => exact ⟨j + 1, by omega, by go_num, HB8.out.later (fun _ _ => rfl), HS8.out.later (fun _ _ => rfl), ⟨hb8.os, hb8.tape, hb8.output, hb8.size, hb8.block⟩⟩
          case measure => simp [intOf]; omega
        · obtain rfl : j = n := by omega
          clear hlt
          obtain ⟨⟨us, u1, u2⟩, u3⟩ := HS8.out.Pt rfl
          have d1 := u1.cellv u2
          have o0 := HB8.out.o.cellv (j := 0) (v := .int .u32 7) rfl
          have o1 := HB8.out.o.cellv (j := 1) (v := .int .u32 k) rfl
          have l1 : (Instr.lookup 39 (.map (some (w1.heap.size + 1 + 1))) (.agg #[.int .u32 7, .int .u32 k]) true).run Try.prog wr.drew = .ok (.tuple #[.agg #[.int .u32 5], .bool true]) wr.drew := by
            have := (u3.kept (w' := wr.drew) rfl).look keyR Try.underlying39 (zero41 wr.drew) (otherV_pair k) true
            rw [Ft_o] at this
            exact this
          have l2 : (Instr.lookup 39 (.map (some (w1.heap.size + 1 + 1))) (.agg #[.int .u32 7, .int .u32 k]) true).run Try.prog (wr.alloc (.cells #[.int .u32 0] 41)).drew = .ok (.tuple #[.agg #[.int .u32 5], .bool true]) (wr.alloc (.cells #[.int .u32 0] 41)).drew := by
            have := ((u3.alloc (.cells #[.int .u32 0] 41)).kept (w' := (wr.alloc (.cells #[.int .u32 0] 41)).drew) rfl).look keyR Try.underlying39 (zero41 _) (otherV_pair k) true
            rw [Ft_o] at this
            exact this
          have y1 : w22.heap.size < wr.heap.size := u1.lt
          have y2 : w1.heap.size + 1 < wr.heap.size := HB8.out.o.lt
          clear u1 u2 u3
          go_wp2_with fail
          go_region
          all_goals
            go_wp2_with fail
            have HB9 := HB8.out.later (w' := (wr.alloc (.cells #[.int .u32 5] 41)).drew) (fun j hj => Below.heap_alloc _ _ _ hj)
            have HS9 := HS8.out.later (w' := (wr.alloc (.cells #[.int .u32 5] 41)).drew) (fun j hj => Below.heap_alloc _ _ _ hj)
            have hb9 : Below w.heap.size w (wr.alloc (.cells #[.int .u32 5] 41)).drew := by go_grown
            clear d1 o0 o1 l1 l2 HB8 HS8 hb8 y1 y2
            generalize hW : (wr.alloc (.cells #[.int .u32 5] 41)).drew = W2 at HB9 HS9 hb9 ⊢
            clear hW
            obtain ⟨⟨us, u1, u2⟩, u3⟩ := HS9.Pt rfl
            have d1 := u1.cellv u2
            have o0 := HB9.t.cellv (j := 0) (v := .int .u32 0) rfl
            have o1 := HB9.t.cellv (j := 1) (v := .int .u32 k) rfl
            have l1 : (Instr.lookup 39 (.map (some (w1.heap.size + 1 + 1))) (.agg #[.int .u32 0, .int .u32 k]) true).run Try.prog W2.drew = .ok (.tuple #[.agg #[.int .u32 pc], .bool true]) W2.drew := by
              have := (u3.kept (w' := W2.drew) rfl).look keyR Try.underlying39 (zero41 W2.drew) (refV_pair k) true
              rw [Ft_t] at this
              exact this
            have l2 : (Instr.lookup 39 (.map (some (w1.heap.size + 1 + 1))) (.agg #[.int .u32 0, .int .u32 k]) true).run Try.prog (W2.alloc (.cells #[.int .u32 0] 41)).drew = .ok (.tuple #[.agg #[.int .u32 pc], .bool true]) (W2.alloc (.cells #[.int .u32 0] 41)).drew := by
              have := ((u3.alloc (.cells #[.int .u32 0] 41)).kept (w' := (W2.alloc (.cells #[.int .u32 0] 41)).drew) rfl).look keyR Try.underlying39 (zero41 _) (refV_pair k) true
              rw [Ft_t] at this
              exact this
            have m1 : ∀ ty, (Builtin.len_ #[39] ty #[.map (some (w1.heap.size + 1 + 1))]).run Try.prog (W2.alloc (.cells #[.int .u32 pc] 41)).drew = .ok (.int .i64 (2 : Nat)) (W2.alloc (.cells #[.int .u32 pc] 41)).drew := fun ty => ((u3.alloc (.cells #[.int .u32 pc] 41)).kept (w' := (W2.alloc (.cells #[.int .u32 pc] 41)).drew) rfl).len Try.underlying39
            have y1 : w22.heap.size < W2.heap.size := u1.lt
            have y2 : w1.heap.size < W2.heap.size := HB9.t.lt
            have z9 := hb9.size
            clear u1 u2 u3 HB9 HS9
            go_region
            all_goals
              go_wp2_with fail
              go_ret
              exact ⟨rfl, by go_grown⟩

theorem walk_bn (x : Addr) (n c k len2 cap2 : Nat) (z z2 : List Int) (dead : Bool) (pc : Int) (w : World) (hn1 : 1 ≤ n) (hn2 : n ≤ 65536) (hk : k < n) (hl2 : len2 ≤ 0) (hsum : 4 * n + len2 ≤ 1048576) (hp0 : 0 ≤ pc) (hp1 : pc ≤ 4294967295) (hpc : 1 ≤ pc)
    (hcell : ∀ i, i < n → w.cell? (x.add i) = some (.int .u32 (z.getD i 0))) (hwf : ∀ i, i < n → 0 ≤ z.getD i 0 ∧ z.getD i 0 ≤ 4294967295) :
    Calls Try.prog 4 #[.slice (some x) n c, .int .i64 k, .slice none len2 cap2, .bool dead, .bool true, .bool true, .int .u32 pc] w fun e w' => e = .returned (.bool true) ∧ Below w.heap.size w w' := by
  have HC := Lib.hid hcell
  have HW := Lib.hid hwf
  clear hcell hwf
  have hmm := @run_makeMap Try.prog
  have hn0 : ((n : Int) == 0) = false := by simp; omega
  have hpc0 : (pc == 0) = false := by simp; omega
  go_enter Try.func4, Try.ntmps4
  go_wp2_with fail
  refine (zz13 _ _ _ _ _ _ _ _ _ _ _ _ (by omega) (by omega) (by omega)).mono ?_
  rintro e w0 ⟨rfl, rfl⟩
  go_wp2_with fail
  refine (count14 x n c z _ (by omega) HC.out).mono ?_
  rintro e w1 ⟨rfl, hS, b1⟩
  have z1 : w.heap.size < w1.heap.size := hS.lt
  have HS := Lib.hid hS
  clear hS
  go_wp2_with (at_mapUpdate; refine wpList_putN rfl (.tmp 85) (.tmp 86) (.tmp 87) 39 rfl 37 41 keyR Try.underlying39 (w1.heap.size + 1 + 1) 0 1 (fun _ => none) rfl (MapIs.newAt IsPair (by go_size)) (otherV k) _ rfl rfl (otherV_pair k) rfl ?_)
  intro w2 hM2 hT2
  have s2 : w1.heap.size + 1 + 1 + 1 ≤ w2.heap.size := by have := hT2.size; simp only [World.size_alloc] at this; omega
  have b12 : Below w1.heap.size w1 w2 := Below.trans (by go_grown) (hT2.below (by omega))
  have rt2 : RowAt w2 w1.heap.size #[.int .u32 0, .int .u32 k] 37 := hT2.row (((RowAt.new w1 _ _).alloc _).alloc _) (by omega)
  have ro2 : RowAt w2 (w1.heap.size + 1) #[.int .u32 7, .int .u32 k] 37 := hT2.row ((RowAt.newAt (by go_size)).alloc _) (by omega)
  have hMo : MapIs w2 (w1.heap.size + 1 + 1) IsPair (Fo k) 1 := hM2
  have t0 := rt2.cellv (j := 0) (v := .int .u32 0) rfl
  have t1 := rt2.cellv (j := 1) (v := .int .u32 k) rfl
  clear hT2 hM2
  go_wp2_with (at_mapUpdate; refine wpList_putN rfl (.tmp 89) (.tmp 90) (.tmp 92) 39 rfl 37 41 keyR Try.underlying39 (w1.heap.size + 1 + 1) 1 2 (Fo k) rfl hMo (refV k) _ rfl rfl (refV_pair k) (cnt2 k) ?_)
  intro w22 hM2 hT2
  have s22 : w2.heap.size ≤ w22.heap.size := by rw [hT2.size]; exact Nat.le_refl _
  have b122 : Below w1.heap.size w1 w22 := b12.trans (hT2.below (by omega))
  have rt22 : RowAt w22 w1.heap.size #[.int .u32 0, .int .u32 k] 37 := hT2.row rt2 (by omega)
  have ro22 : RowAt w22 (w1.heap.size + 1) #[.int .u32 7, .int .u32 k] 37 := hT2.row ro2 (by omega)
  have hMt : MapIs w22 (w1.heap.size + 1 + 1) IsPair (Ft k pc) 2 := hM2
  clear hT2 hM2 t0 t1 rt2 ro2 hMo b12
  have HRT := Lib.hid rt22
  have HRO := Lib.hid ro22
  have HMM := Lib.hid hMt
  clear rt22 ro22 hMt
  go_wp2_with fail
  refine (new15 w.heap.size n w22.heap.size dead true _).mono ?_
  rintro e w3 ⟨p, rfl, hP, b3⟩
  have rt := (HRT.out.alloc _).below b3 (by have := HRT.out.lt; simp; omega)
  have ro := (HRO.out.alloc _).below b3 (by have := HRO.out.lt; simp; omega)
  have rq := (RowAt.new w22 #[.slice none 0 0, .slice none 0 0, .slice none 0 0, .slice none 0 0, .map (some (w1.heap.size + 1 + 1)), .map none, .map none, .slice none 0 0, .bool false, .bool false, .bool false] 49).below b3 (by simp)
  have rm := (HMM.out.alloc _).below b3 (by have := HMM.out.lt; simp; omega)
  have b13 : Below w1.heap.size w1 w3 := b122.trans (Below.trans ((Below.refl _ _).alloc b122.size _) (b3.mono (by have := b122.size; simp; omega)))
  have HST : Hid (St w3 p w.heap.size w.heap.size w22.heap.size (w1.heap.size + 1 + 1) n dead false true (fun i => z.getD i 0) (fun _ => 0) (Ft k pc) 2) := by
    exact ⟨hP, HS.out.kept (b13.block _ z1), (fun e => by cases e), fun _ => ⟨⟨_, rq, rfl⟩, rm⟩⟩
  have hMge : w.heap.size ≤ w1.heap.size + 1 + 1 := by omega
  clear rq rm HMM HRT HRO
  clear hP HS
  have B3 : Below w.heap.size w w3 := b1.trans (b13.mono b1.size)
  clear b3 b13 b1
  have HRT3 := Lib.hid rt
  have HRO3 := Lib.hid ro
  have t30 := rt.cellv (j := 0) (v := .int .u32 0) rfl
  have t31 := rt.cellv (j := 1) (v := .int .u32 k) rfl
  clear rt ro
  go_wp2_with fail
  refine (ident16 k _).mono ?_
  rintro e w4 ⟨d0, rfl, hC4, b4⟩
  obtain ⟨U4, u4, rfl⟩ := hC4.one
  have HC4 := Lib.hid hC4
  have st4 := Lib.hid (HST.out.later (fun j hj => b4.block j hj))
  have rt4 := Lib.hid (HRT3.out.below b4 HRT3.out.lt)
  have ro4 := Lib.hid (HRO3.out.below b4 HRO3.out.lt)
  have B4 : Below w.heap.size w w4 := B3.trans (b4.mono B3.size)
  clear hC4 b4 B3 HST HRT3 HRO3 t30 t31
  have z4 := B4.size
  go_wp2_with fail
  go_loopw [22] (fun v22 wr => ∃ (i : Nat) (d : Value), i ≤ len2 ∧ v22 = .int .i64 i ∧ Ch wr k i d ∧ Bx wr w1.heap.size (w1.heap.size + 1) w4.heap.size k d ∧ St wr p w.heap.size w.heap.size w22.heap.size (w1.heap.size + 1 + 1) n dead false true (fun i => z.getD i 0) (fun _ => 0) (Ft k pc) 2 ∧ Below w.heap.size w wr) (fun v22 _ => len2 - (intOf v22).toNat)
  case atStart => exact ⟨0, _, Nat.zero_le _, rfl, HC4.out.later (fun j hj => Below.heap_alloc _ _ _ hj), ⟨rt4.out.alloc _, ro4.out.alloc _, RowAt.new _ _ _⟩, st4.out.later (fun j hj => Below.heap_alloc _ _ _ hj), by go_grown⟩
  case round =>
    obtain ⟨i, d, hi, rfl, hC, hB, hS, hb⟩ := hrel
    obtain ⟨U, u, rfl⟩ := hC.one
    have HCC := Lib.hid hC
    have HB := Lib.hid hB
    have HSS := Lib.hid hS
    have e0 := hB.e.cellv (j := 0) (v := .iface U (.pointer (some ⟨u, 0, none⟩))) rfl
    have e1 := hB.e.cellv (j := 1) (v := .int .i32 0) rfl
    clear hC hB hS HC4 st4 rt4 ro4 B4
    by_cases hlt : i < len2
    · exact absurd hlt (by omega)
    · obtain rfl : i = len2 := by omega
      clear hlt
      have t0 := HB.out.t.cellv (j := 0) (v := .int .u32 0) rfl
      have t1 := HB.out.t.cellv (j := 1) (v := .int .u32 k) rfl
      go_wp2_with fail
      refine (rec19 p w.heap.size w.heap.size w22.heap.size (w1.heap.size + 1 + 1) n k dead true _ _ _ _ pc _ hk (by omega) HSS.out (fun _ => by rw [Ft_t, if_neg (by omega)]) (by omega) (by omega) (HW.out k hk).1 (HW.out k hk).2).mono ?_
      rintro e w6 ⟨rfl, h6, f6⟩
      have hB6 : Bx w6 w1.heap.size (w1.heap.size + 1) w4.heap.size k _ := HB.out.kept fun j hj => by
        rcases hj with rfl | rfl | rfl
        · exact row_fr HSS.out (fun e => by cases e) f6 HB.out.t (by decide)
        · exact row_fr HSS.out (fun e => by cases e) f6 HB.out.o (by decide)
        · exact row_fr HSS.out (fun e => by cases e) f6 HB.out.e (by decide)
      have hC6 := Lib.hid (HCC.out.kept fun j cs t hr ht => row_fr HSS.out (fun e => by cases e) f6 hr (by rcases ht with rfl | rfl | rfl <;> decide))
      have B6 : Below w.heap.size w w6 := hb.trans (f6.below (by rintro j (rfl | rfl | rfl); exact Nat.le_refl _; exact Nat.le_refl _; exact hMge) hb.size)
      have H6 := Lib.hid h6
      have HB6 := Lib.hid hB6
      have e60 := hB6.e.cellv (j := 0) (v := .iface U (.pointer (some ⟨u, 0, none⟩))) rfl
      have e61 := hB6.e.cellv (j := 1) (v := .int .i32 0) rfl
      clear h6 f6 hB6 HB HSS HCC hb e0 e1 t0 t1
      go_wp2_with fail
      refine (ign20 p w.heap.size w.heap.size w22.heap.size (w1.heap.size + 1 + 1) n k i _ dead false true _ _ _ _ _ H6.out hC6.out).mono ?_
      rintro e w7 ⟨rfl, h7, f7⟩
      obtain ⟨G1, cnt1, hG1, _⟩ := H6.out
      have B7 : Below w.heap.size w w7 := B6.trans (f7.below (by rintro j (rfl | rfl | rfl); exact Nat.le_refl _; exact Nat.le_refl _; exact hMge) B6.size)
      have HB7 := Lib.hid (HB6.out.kept (w' := w7) fun j hj => by
        rcases hj with rfl | rfl | rfl
        · exact row_fr hG1 (fun e => by cases e) f7 HB6.out.t (by decide)
        · exact row_fr hG1 (fun e => by cases e) f7 HB6.out.o (by decide)
        · exact row_fr hG1 (fun e => by cases e) f7 HB6.out.e (by decide))
      have H7 := Lib.hid h7
      clear h7 f7 hG1 H6 HB6 hC6 B6 e60 e61
      go_wp2_with fail
      refine (syms21 p w.heap.size w.heap.size w22.heap.size (w1.heap.size + 1 + 1) n dead false true _ _ _ _ _ H7.out).mono ?_
      rintro e w8 ⟨rfl, rfl⟩
      go_wp2_with fail
      go_loopw [24] (fun v24 wr => ∃ j : Nat, j ≤ n ∧ v24 = .int .i64 j ∧ Bx wr w1.heap.size (w1.heap.size + 1) w4.heap.size k (.iface U (.pointer (some ⟨u, 0, none⟩))) ∧ St wr p w.heap.size w.heap.size w22.heap.size (w1.heap.size + 1 + 1) n dead false true (fun i => z.getD i 0) (fun _ => 0) (Ft k pc) 2 ∧ Below w.heap.size w wr) (fun v24 _ => n - (intOf v24).toNat)
      case atStart => exact ⟨0, Nat.zero_le _, rfl, HB7.out, H7.out, B7⟩
      case round =>
        obtain ⟨j, hj, rfl, hB8, hS8, hb8⟩ := hrel
        have HB8 := Lib.hid hB8
        have HS8 := Lib.hid hS8
        clear hB8 hS8 HB7 H7 B7
        by_cases hlt : j < n
        · have c8 := HS8.out.Sy.cell hlt
          have x8 := later (HC.out j hlt) hb8
          obtain ⟨y, hy⟩ : ∃ y, z.getD j 0 = y := ⟨_, rfl⟩
          simp only [hy] at c8 x8
          clear hy
          go_wp2_with fail
          go_quiet (fail)
          go_wp2_with fail
          go_roundw
          case rel => exact ⟨j + 1, by omega, by go_num, HB8.out.later (fun _ _ => rfl), HS8.out.later (fun _ _ => rfl), ⟨hb8.os, hb8.tape, hb8.output, hb8.size, hb8.block⟩⟩
          case measure => simp [intOf]; omega
        · obtain rfl : j = n := by omega
          clear hlt
          obtain ⟨⟨us, u1, u2⟩, u3⟩ := HS8.out.Pt rfl
          have d1 := u1.cellv u2
          have o0 := HB8.out.o.cellv (j := 0) (v := .int .u32 7) rfl
          have o1 := HB8.out.o.cellv (j := 1) (v := .int .u32 k) rfl
          have l1 : (Instr.lookup 39 (.map (some (w1.heap.size + 1 + 1))) (.agg #[.int .u32 7, .int .u32 k]) true).run Try.prog wr.drew = .ok (.tuple #[.agg #[.int .u32 5], .bool true]) wr.drew := by
            have := (u3.kept (w' := wr.drew) rfl).look keyR Try.underlying39 (zero41 wr.drew) (otherV_pair k) true
            rw [Ft_o] at this
            exact this
          have l2 : (Instr.lookup 39 (.map (some (w1.heap.size + 1 + 1))) (.agg #[.int .u32 7, .int .u32 k]) true).run Try.prog (wr.alloc (.cells #[.int .u32 0] 41)).drew = .ok (.tuple #[.agg #[.int .u32 5], .bool true]) (wr.alloc (.cells #[.int .u32 0] 41)).drew := by
            have := ((u3.alloc (.cells #[.int .u32 0] 41)).kept (w' := (wr.alloc (.cells #[.int .u32 0] 41)).drew) rfl).look keyR Try.underlying39 (zero41 _) (otherV_pair k) true
            rw [Ft_o] at this
            exact this
          have y1 : w22.heap.size < wr.heap.size := u1.lt
          have y2 : w1.heap.size + 1 < wr.heap.size := HB8.out.o.lt
          clear u1 u2 u3
          go_wp2_with fail
          go_region
          all_goals
            go_wp2_with fail
            have HB9 := HB8.out.later (w' := (wr.alloc (.cells #[.int .u32 5] 41)).drew) (fun j hj => Below.heap_alloc _ _ _ hj)
            have HS9 := HS8.out.later (w' := (wr.alloc (.cells #[.int .u32 5] 41)).drew) (fun j hj => Below.heap_alloc _ _ _ hj)
            have hb9 : Below w.heap.size w (wr.alloc (.cells #[.int .u32 5] 41)).drew := by go_grown
            clear d1 o0 o1 l1 l2 HB8 HS8 hb8 y1 y2
            generalize hW : (wr.alloc (.cells #[.int .u32 5] 41)).drew = W2 at HB9 HS9 hb9 ⊢
            clear hW
            obtain ⟨⟨us, u1, u2⟩, u3⟩ := HS9.Pt rfl
            have d1 := u1.cellv u2
            have o0 := HB9.t.cellv (j := 0) (v := .int .u32 0) rfl
            have o1 := HB9.t.cellv (j := 1) (v := .int .u32 k) rfl
            have l1 : (Instr.lookup 39 (.map (some (w1.heap.size + 1 + 1))) (.agg #[.int .u32 0, .int .u32 k]) true).run Try.prog W2.drew = .ok (.tuple #[.agg #[.int .u32 pc], .bool true]) W2.drew := by
              have := (u3.kept (w' := W2.drew) rfl).look keyR Try.underlying39 (zero41 W2.drew) (refV_pair k) true
              rw [Ft_t] at this
              exact this
            have l2 : (Instr.lookup 39 (.map (some (w1.heap.size + 1 + 1))) (.agg #[.int .u32 0, .int .u32 k]) true).run Try.prog (W2.alloc (.cells #[.int .u32 0] 41)).drew = .ok (.tuple #[.agg #[.int .u32 pc], .bool true]) (W2.alloc (.cells #[.int .u32 0] 41)).drew := by
              have := ((u3.alloc (.cells #[.int .u32 0] 41)).kept (w' := (W2.alloc (.cells #[.int .u32 0] 41)).drew) rfl).look keyR Try.underlying39 (zero41 _) (refV_pair k) true
              rw [Ft_t] at this
              exact this
            have m1 : ∀ ty, (Builtin.len_ #[39] ty #[.map (some (w1.heap.size + 1 + 1))]).run Try.prog (W2.alloc (.cells #[.int .u32 pc] 41)).drew = .ok (.int .i64 (2 : Nat)) (W2.alloc (.cells #[.int .u32 pc] 41)).drew := fun ty => ((u3.alloc (.cells #[.int .u32 pc] 41)).kept (w' := (W2.alloc (.cells #[.int .u32 pc] 41)).drew) rfl).len Try.underlying39
            have y1 : w22.heap.size < W2.heap.size := u1.lt
            have y2 : w1.heap.size < W2.heap.size := HB9.t.lt
            have z9 := hb9.size
            clear u1 u2 u3 HB9 HS9
            go_region
            all_goals
              go_wp2_with fail
              go_ret
              exact ⟨rfl, by go_grown⟩

end Go.Proofs.Ytailfkedgdlldaa.fnIgnoreDotChainUndoesRecordUsage
