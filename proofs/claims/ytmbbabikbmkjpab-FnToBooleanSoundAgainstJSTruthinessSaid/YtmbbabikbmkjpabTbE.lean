import Derived.Test.YtmbbabikbmkjpabKit
import Derived.Test.YtmbbabikbmkjpabTbD
import Derived.IntWalk
namespace Go.Proofs.Ytmbbabikbmkjpab.fnToBooleanSoundAgainstJSTruthiness
open Go.ChangeShapes Go.WideShapes Go.ChangeAt Go.RowKit
set_option linter.unusedVariables false
set_option maxRecDepth 100000
set_option maxHeartbeats 2000000

theorem own_below {w w' : World} {B E s n : Nat} {v : Value} {xs : List Value} (h : w.ownsRow B E s v n xs) (hb : Below w.heap.size w w') : w'.ownsRow B E s v n xs := by
  refine ⟨h.1, ?_⟩
  rcases h.2 with h0 | ⟨g, cap, cur, e1, e2, e3, e4⟩
  · exact .inl h0
  · exact .inr ⟨g, cap, cur, e1, e2, (hb.block g (lt_of_block e3)).trans e3, e4⟩

theorem snoc_cases : ∀ st : List Nd, st = [] ∨ ∃ L x, st = L ++ [x]
  | [] => .inl rfl
  | a :: l => .inr (match snoc_cases l with
    | .inl h => ⟨[], a, by rw [h]; rfl⟩
    | .inr ⟨L, x, h⟩ => ⟨a :: L, x, by rw [h]; rfl⟩)

theorem quiet17 {P : Program} {f : FuncId} {args : Array Value} {w : World} {n : Nat} {v : Value} (h : Calls P f args (w.drewN n) fun e w' => e = .returned v ∧ w.drewN n = w') : Calls P f args (w.drewN n) fun e w'' => e = .returned v ∧ ∃ m, w'' = w.drewN m :=
  h.mono fun _ _ ⟨he, hm⟩ => ⟨he, n, hm.symm⟩

/-- What the loop keeps behind k rounds. -/
def Fit (w : World) (k : Nat) (v7 v8 v9 v10 : Value) (wr : World) : Prop := ∃ (jj : Nat) (st : List Nd) (N : Nat) (a7 a8 : Option Addr) (c7 c8 : Nat), N = st.length ∧ v10 = .int .i64 (k : Int) ∧ v9 = .int .i64 (jj : Int) ∧ jj ≤ k ∧ N ≤ k ∧ v7 = .slice a7 N c7 ∧ v8 = .slice a8 N c8 ∧
  wr.ownsRow (w.heap.size + 1) 32 2 (.slice a7 N c7) N (esL st) ∧ wr.ownsRow (w.heap.size + 1) 33 1 (.slice a8 N c8) N (tsL st) ∧ (∀ x ∈ st, Good wr x.1 x.2.1 x.2.2 ∧ Tri x.2.2) ∧ RowAt wr w.heap.size #[.nilIface, .int .i32 0] 32 ∧ Below w.heap.size w wr

theorem stepB {B : Nat} {w w' w'' : World} (hB : B ≤ w'.heap.size) (h : Below B w w') (h2 : Below w'.heap.size w' w'') : Below B w w'' := h.trans (h2.mono hB)

section
variable {w wr w3 : World} {st L : List Nd} {N k jj m g7 g8 c7 c8 U u : Nat} {a7 a8 : Option Addr} {t : Int} {x : Nd}
theorem fit_open {B : Nat} (hp : 0 < N) (hN : N = st.length) (ho7 : wr.ownsRow B 32 2 (.slice a7 N c7) N (esL st)) (ho8 : wr.ownsRow B 33 1 (.slice a8 N c8) N (tsL st)) (hgd : ∀ x ∈ st, Good wr x.1 x.2.1 x.2.2 ∧ Tri x.2.2) :
    ∃ g7 g8, a7 = some ⟨g7, 0, none⟩ ∧ a8 = some ⟨g8, 0, none⟩ ∧ StkAt wr B g7 c7 g8 c8 st ∧ N ≤ c7 ∧ N ≤ c8 ∧ c7 ≤ maxLen ∧ c8 ≤ maxLen := by
  subst hN
  obtain ⟨g7, d7, g8, d8, e7, e8, h⟩ := StkAt.of_own hp ho7 ho8 hgd
  injection e7 with e7 _ e7'
  injection e8 with e8 _ e8'
  subst e7; subst e8; subst e7'; subst e8'
  obtain ⟨cs, _, _, q1, q2, _⟩ := h.es
  obtain ⟨ds, _, _, q3, q4, _⟩ := h.ts
  exact ⟨g7, g8, rfl, rfl, h, q1, q3, q2, q4⟩
theorem fit_same (hN : N = st.length) (hj : jj ≤ k) (hNk : N ≤ k) (ho7 : wr.ownsRow (w.heap.size + 1) 32 2 (.slice a7 N c7) N (esL st)) (ho8 : wr.ownsRow (w.heap.size + 1) 33 1 (.slice a8 N c8) N (tsL st)) (hgd : ∀ x ∈ st, Good wr x.1 x.2.1 x.2.2 ∧ Tri x.2.2) (hr : RowAt wr w.heap.size #[.nilIface, .int .i32 0] 32) (hb : Below w.heap.size w wr) :
    Fit w (k + 1) (.slice a7 N c7) (.slice a8 N c8) (.int .i64 jj) (.int .i64 ((k : Int) + 1)) wr :=
  ⟨jj, st, N, a7, a8, c7, c8, hN, by go_num, rfl, by omega, by omega, rfl, rfl, ho7, ho8, hgd, hr, hb⟩
theorem fit_put {w4 : World} (hS : StkAt wr (w.heap.size + 1) g7 c7 g8 c8 (L ++ [x])) (hm : L.length = m)
    (hb4 : Below (((wr.setCell ⟨g7, m * 2, none⟩ (.iface U (.pointer (some ⟨u, 0, none⟩)))).setCell ⟨g7, m * 2 + 1, none⟩ (.int .i32 0)).setCell ⟨g8, m, none⟩ (.int .i8 t)).heap.size (((wr.setCell ⟨g7, m * 2, none⟩ (.iface U (.pointer (some ⟨u, 0, none⟩)))).setCell ⟨g7, m * 2 + 1, none⟩ (.int .i32 0)).setCell ⟨g8, m, none⟩ (.int .i8 t)) w4)
    (hg : KeptT wr w4 → Good w4 U u t) (ht : Tri t) (hr : RowAt wr w.heap.size #[.nilIface, .int .i32 0] 32) (hb : Below w.heap.size w wr) (hj : jj ≤ k) (hk : m + 1 ≤ k + 1) :
    Fit w (k + 1) (.slice (some ⟨g7, 0, none⟩) (m + 1) c7) (.slice (some ⟨g8, 0, none⟩) (m + 1) c8) (.int .i64 jj) (.int .i64 ((k : Int) + 1)) w4 := by
  subst hm
  obtain ⟨h1, h2⟩ := hS.put U u t
  have hl : (L ++ [(U, u, t)]).length = L.length + 1 := by simp
  have o7 := (h1.below hb4).ownE
  have o8 := (h1.below hb4).ownT
  rw [hl] at o7 o8
  have b7 := hS.b7
  have b8 := hS.b8
  have hk4 := h2.trans (KeptT.below hb4)
  have hr4 := (((hr.set_other (show w.heap.size ≠ g7 by omega) (L.length * 2) (.iface U (.pointer (some ⟨u, 0, none⟩)))).set_other (show w.heap.size ≠ g7 by omega) (L.length * 2 + 1) (.int .i32 0)).set_other (show w.heap.size ≠ g8 by omega) L.length (.int .i8 t))
  have hbs := (((hb.setCell (show w.heap.size ≤ (⟨g7, L.length * 2, none⟩ : Addr).block from by show w.heap.size ≤ g7; omega) (.iface U (.pointer (some ⟨u, 0, none⟩)))).setCell (show w.heap.size ≤ (⟨g7, L.length * 2 + 1, none⟩ : Addr).block from by show w.heap.size ≤ g7; omega) (.int .i32 0)).setCell (show w.heap.size ≤ (⟨g8, L.length, none⟩ : Addr).block from by show w.heap.size ≤ g8; omega) (.int .i8 t))
  refine ⟨jj, L ++ [(U, u, t)], L.length + 1, _, _, c7, c8, hl.symm, by go_num, rfl, by omega, hk, rfl, rfl, o7, o8, fun y hy => ?_, hr4.below hb4 hr4.lt, hbs.trans (hb4.mono hbs.size)⟩
  rcases List.mem_append.1 hy with hy | hy
  · exact ⟨(hS.good y (List.mem_append_left _ hy)).1.kept hk4, (hS.good y (List.mem_append_left _ hy)).2⟩
  · obtain rfl : y = (U, u, t) := by simpa using hy
    exact ⟨hg hk4, ht⟩
theorem fit_push {v7 v8 v9 : Value} {w4 : World} (h9 : v9 = .int .i64 (jj : Int)) (hN : N = st.length) (h7 : w4.ownsRow (w.heap.size + 1) 32 2 v7 (N + 1) (esL st ++ [.iface U (.pointer (some ⟨u, 0, none⟩)), .int .i32 0])) (h8 : w4.ownsRow (w.heap.size + 1) 33 1 v8 (N + 1) (tsL st ++ [.int .i8 t])) (hgd : ∀ x ∈ st, Good w4 x.1 x.2.1 x.2.2 ∧ Tri x.2.2) (hg : Good w4 U u t) (ht : Tri t) (hr : RowAt w4 w.heap.size #[.nilIface, .int .i32 0] 32) (hb : Below w.heap.size w w4) (hj : jj ≤ k + 1) (hk : N ≤ k) :
    Fit w (k + 1) v7 v8 v9 (.int .i64 ((k : Int) + 1)) w4 := by
  subst h9
  obtain ⟨a7, c7, rfl⟩ := shape h7
  obtain ⟨a8, c8, rfl⟩ := shape h8
  refine ⟨jj, st ++ [(U, u, t)], N + 1, a7, a8, c7, c8, by simp [hN], by go_num, rfl, hj, by omega, rfl, rfl, ?_, ?_, fun y hy => ?_, hr, hb⟩
  · rw [esL_snoc]; exact h7
  · rw [tsL_snoc]; exact h8
  · rcases List.mem_append.1 hy with hy | hy
    · exact hgd y hy
    · obtain rfl : y = (U, u, t) := by simpa using hy
      exact ⟨hg, ht⟩
end

/-- The truth row's float list. -/
def Nums (w : World) (a : Option Addr) (m : Nat) : Prop := ∀ i, i < m → ∃ y F, a = some y ∧ w.cell? (y.add i) = some (.float .f64 F)

theorem leaf13 (op : Int) (f : Nat) (w : World) (h0 : 0 ≤ op) (h1 : op ≤ 10) : Calls Try.prog 13 #[.int .u8 op, .float .f64 f] w (GotL w) := by
  have h : op = 0 ∨ op = 1 ∨ op = 2 ∨ op = 3 ∨ op = 4 ∨ op = 5 ∨ op = 6 ∨ op = 7 ∨ op = 8 ∨ op = 9 ∨ op = 10 := by omega
  rcases h with rfl | rfl | rfl | rfl | rfl | rfl | rfl | rfl | rfl | rfl | rfl
  · exact lf0 f w
  · exact lf1 f w
  · exact lf2 f w
  · exact lf3 f w
  · exact lf4 f w
  · exact lf5 f w
  · exact lf6 f w
  · exact lf7 f w
  · exact lf8 f w
  · exact lf9 f w
  · exact lf10 f w

theorem b87 (a b c : Value) (w : World) : (Instr.build 87 #[(0, .agg #[a, .int .i32 0]), (1, .agg #[b, .int .i32 0]), (2, .agg #[c, .int .i32 0])]).run Try.prog w = .ok (.agg #[a, .int .i32 0, b, .int .i32 0, c, .int .i32 0]) w := by kernel_rfl

/-- What comes back. -/
def GotB (w : World) (e : Ending) (w' : World) : Prop := (∃ t, e = .returned (.tuple #[.agg #[.nilIface, .int .i32 0], .int .i8 t, .bool false]) ∧ Below w.heap.size w w') ∨
  ∃ (U u : Nat) (t : Int), e = .returned (.tuple #[.agg #[.iface U (.pointer (some ⟨u, 0, none⟩)), .int .i32 0], .int .i8 t, .bool true]) ∧ Good w' U u t ∧ Tri t ∧ Below w.heap.size w w'

set_option maxHeartbeats 20000000 in
theorem build9 (a0 : Option Addr) (n c : Nat) (z : List Int) (a1 : Option Addr) (mm c1 : Nat) (w : World) (hn : n ≤ 65536) (hm : mm ≤ 65536) (hz : ∀ i, i < n → 0 ≤ z.getD i 0 ∧ z.getD i 0 ≤ 255) (hx : ∀ i, i < n → ∃ x, a0 = some x ∧ w.cell? (x.add i) = some (.int .u8 (z.getD i 0))) (hN : Nums w a1 mm) :
    Calls Try.prog 9 #[.slice a0 n c, .slice a1 mm c1] w (GotB w) := by
  have HX := Lib.hid hx
  have HZ := Lib.hid hz
  have HNS := Lib.hid hN
  clear hx hz hN
  go_enter Try.func9, Try.ntmps9
  go_wp2_with fail
  go_loopw [7, 8, 9, 10] (fun v7 v8 v9 v10 wr => ∃ k : Nat, k ≤ n ∧ Fit w k v7 v8 v9 v10 wr) (fun _ _ _ v10 _ => n - (intOf v10).toNat)
  case atStart =>
    refine ⟨0, Nat.zero_le _, 0, [], 0, _, _, 0, 0, rfl, rfl, rfl, Nat.le_refl _, Nat.le_refl _, rfl, rfl, ?_, ?_, fun x hx => by simp at hx, ?_, by go_grown⟩
    · exact ⟨rfl, .inr ⟨w.heap.size + 1, 0, #[], rfl, Nat.le_refl _, (((RowAt.newAt (by simp)).alloc _ : RowAt _ _ _ _)), Nat.le_refl _, Nat.zero_le _, rfl, rfl⟩⟩
    · exact ⟨rfl, .inr ⟨w.heap.size + 1 + 1, 0, #[], rfl, by omega, ((RowAt.newAt (by simp) : RowAt _ _ _ _)), Nat.le_refl _, Nat.zero_le _, rfl, rfl⟩⟩
    · exact ((RowAt.new w _ _).alloc _).alloc _
  case round =>
    obtain ⟨k, hk, jj, st, N, a7, a8, c7, c8, hN, rfl, rfl, hj, hNk, rfl, rfl, ho7, ho8, hgd, hrr, hb⟩ := hrel
    by_cases hge : n ≤ k
    · as_aux_lemma =>
      obtain rfl : k = n := by omega
      have c0 := hrr.cellv (j := 0) (v := .nilIface) rfl
      have c1 := hrr.cellv (j := 1) (v := .int .i32 0) rfl
      have f0 := hrr.frozen
      have HR := Lib.hid hrr
      have HB := Lib.hid hb
      rcases snoc_cases st with rfl | ⟨L, ⟨U, u, t⟩, rfl⟩
      · obtain rfl : N = 0 := hN
        clear ho7 ho8 hgd hrr hb hge
        go_wp2_with fail
        have q0 : (wr.setCell ⟨w.heap.size, 0, none⟩ .nilIface).cell? ⟨w.heap.size, 0, none⟩ = some .nilIface := (HR.out.set 0 _).cellv rfl
        have q1 : ((wr.setCell ⟨w.heap.size, 0, none⟩ .nilIface).setCell ⟨w.heap.size, 1, none⟩ (.int .i32 0)).cell? ⟨w.heap.size, 1, none⟩ = some (.int .i32 0) := ((HR.out.set 0 _).set 1 _).cellv rfl
        exact bodyPost_ret (v := .tuple #[.agg #[.nilIface, .int .i32 0], .int .i8 (-1), .bool false]) (by simp [results, Try.results9, go_sem, q0, q1]) rfl (.inl ⟨_, rfl, (HB.out.setCell (Nat.le_refl _) _).setCell (Nat.le_refl _) _⟩)
      · obtain ⟨m, hm⟩ : ∃ m, L.length = m := ⟨_, rfl⟩
        obtain rfl : N = m + 1 := by rw [hN, ← hm]; simp
        obtain ⟨g7, g8, rfl, rfl, hS, q7, q8, q9, q10⟩ := fit_open (by omega) hN ho7 ho8 hgd
        obtain ⟨e0, e1, e2⟩ := hS.cells (T := [])
        rw [hm] at e0 e1 e2
        dsimp only at e0 e1 e2
        have n7 := hS.b7
        have n8 := hS.b8
        have x7 : ¬ w.heap.size = g7 := by omega
        have x8 : ¬ w.heap.size = g8 := by omega
        have y7 : ¬ g7 = w.heap.size := by omega
        have y8 : ¬ g8 = w.heap.size := by omega
        have hp : (m + 1 == 0) = false := by simp
        have HG := Lib.hid hS.goodAt
        unfold maxLen at q9 q10
        clear hS ho7 ho8 hgd hrr hb hm hN hge
        go_wp2_with fail
        go_region
        go_wp2_with fail
        have q0 : (wr.setCell ⟨w.heap.size, 0, none⟩ (.iface U (.pointer (some ⟨u, 0, none⟩)))).cell? ⟨w.heap.size, 0, none⟩ = some (.iface U (.pointer (some ⟨u, 0, none⟩))) := (HR.out.set 0 _).cellv rfl
        have q1 : ((wr.setCell ⟨w.heap.size, 0, none⟩ (.iface U (.pointer (some ⟨u, 0, none⟩)))).setCell ⟨w.heap.size, 1, none⟩ (.int .i32 0)).cell? ⟨w.heap.size, 1, none⟩ = some (.int .i32 0) := ((HR.out.set 0 _).set 1 _).cellv rfl
        exact bodyPost_ret (v := .tuple #[.agg #[.iface U (.pointer (some ⟨u, 0, none⟩)), .int .i32 0], .int .i8 t, .bool true]) (by simp [results, Try.results9, go_sem, q0, q1]) rfl (.inr ⟨U, u, t, rfl, HG.out.1.kept ((((KeptT.refl (w := wr)).set HR.out (.inl rfl) _).set (HR.out.set _ _) (.inl rfl) _).drewN 1), HG.out.2, below_drewN ((HB.out.setCell (Nat.le_refl _) _).setCell (Nat.le_refl _) _) 1⟩)
    have hlt : k < n := by omega
    clear hge
    obtain ⟨x, rfl, hcx⟩ := HX.out k hlt
    have hc := later hcx hb
    clear hcx
    obtain ⟨hz0, hz1⟩ := HZ.out k hlt
    obtain ⟨zk, hzk⟩ : ∃ zk, z.getD k 0 = zk := ⟨_, rfl⟩
    rw [hzk] at hc hz0 hz1
    clear hzk
    obtain ⟨op, hop⟩ : ∃ op, zk % 21 = op := ⟨_, rfl⟩
    have ho0 : 0 ≤ op := by omega
    have ho1 : op ≤ 20 := by omega
    by_cases hs0' : 11 ≤ op ∧ op ≤ 13 ∧ N < 1
    · as_aux_lemma =>
      obtain ⟨p1, p2, p3⟩ := hs0'
      have HF := Lib.hid (fit_same hN hj hNk ho7 ho8 hgd hrr hb)
      clear ho7 ho8 hgd hrr hb hN
      go_wp2_with fail
      go_roundw
      case rel => exact ⟨k + 1, by omega, HF.out⟩
      case measure => simp [intOf]; omega
    by_cases hs1' : 17 ≤ op ∧ op ≤ 19 ∧ N < 1
    · as_aux_lemma =>
      obtain ⟨p1, p2, p3⟩ := hs1'
      have HF := Lib.hid (fit_same hN hj hNk ho7 ho8 hgd hrr hb)
      clear ho7 ho8 hgd hrr hb hN
      go_wp2_with fail
      go_roundw
      case rel => exact ⟨k + 1, by omega, HF.out⟩
      case measure => simp [intOf]; omega
    by_cases hs2' : 14 ≤ op ∧ op ≤ 16 ∧ N < 2
    · as_aux_lemma =>
      obtain ⟨p1, p2, p3⟩ := hs2'
      have HF := Lib.hid (fit_same hN hj hNk ho7 ho8 hgd hrr hb)
      clear ho7 ho8 hgd hrr hb hN
      go_wp2_with fail
      go_roundw
      case rel => exact ⟨k + 1, by omega, HF.out⟩
      case measure => simp [intOf]; omega
    by_cases hs3' : 20 ≤ op ∧ op ≤ 20 ∧ N < 3
    · as_aux_lemma =>
      obtain ⟨p1, p2, p3⟩ := hs3'
      have HF := Lib.hid (fit_same hN hj hNk ho7 ho8 hgd hrr hb)
      clear ho7 ho8 hgd hrr hb hN
      go_wp2_with fail
      go_roundw
      case rel => exact ⟨k + 1, by omega, HF.out⟩
      case measure => simp [intOf]; omega
    have hw : op ≤ 10 ∨ (op = 11 ∧ 1 ≤ N) ∨ (op = 12 ∧ 1 ≤ N) ∨ (op = 13 ∧ 1 ≤ N) ∨ (op = 17 ∧ 1 ≤ N) ∨ (op = 18 ∧ 1 ≤ N) ∨ (op = 19 ∧ 1 ≤ N) ∨ (op = 14 ∧ 2 ≤ N) ∨ (op = 15 ∧ 2 ≤ N) ∨ (op = 16 ∧ 2 ≤ N) ∨ (op = 20 ∧ 3 ≤ N) := by omega
    clear hs0' hs1' hs2' hs3'
    rcases hw with hle | ⟨rfl, hN1⟩ | ⟨rfl, hN1⟩ | ⟨rfl, hN1⟩ | ⟨rfl, hN1⟩ | ⟨rfl, hN1⟩ | ⟨rfl, hN1⟩ | ⟨rfl, hN1⟩ | ⟨rfl, hN1⟩ | ⟨rfl, hN1⟩ | ⟨h20, hN1⟩
    · by_cases h4 : op = 4
      · subst h4
        by_cases hm0 : mm = 0
        · as_aux_lemma =>
          subst hm0
          obtain ⟨i7, hi, hz0, hz1, hz2⟩ := info_parts info32
          obtain ⟨i8, ji, jz0, jz1, jz2⟩ := info_parts info33
          have HO7 := Lib.hid ho7
          have HO8 := Lib.hid ho8
          have HGD := Lib.hid hgd
          have HB := Lib.hid hb
          have HR := Lib.hid hrr
          have HL := Lib.hid hN
          have hzz := hrr.lt
          have HR := Lib.hid hrr
          clear ho7 ho8 hgd hrr hb hN
          go_wp2_with fail
          refine (leaf13 _ _ _ (by omega) (by omega)).mono ?_
          rintro e w1 ⟨U, u, t, rfl, hg, htr, hb1⟩
          have zz1 := hb1.size
          have P7 := Lib.hid ((own_below HO7.out hb1).alloc (.cells #[.iface U (.pointer (some ⟨u, 0, none⟩)), .int .i32 0] 32))
          have P8 := Lib.hid ((own_below HO8.out hb1).alloc (.cells #[.iface U (.pointer (some ⟨u, 0, none⟩)), .int .i32 0] 32))
          have HG := Lib.hid hg
          have HT := Lib.hid (show Tri t from htr)
          have KK1 := Lib.hid (KeptT.below hb1)
          have BB1 := Lib.hid (hb1.mono (show w.heap.size + 1 ≤ wr.heap.size by omega))
          clear hg htr hb1 HO7 HO8
          go_wp2_with (at_builtin; refine wpList_append_own _ rfl (.tmp 69) (.tmp 71) 64 rfl (w.heap.size + 1) 32 i7 _ 2 24 Try.underlying64 hi hz0 hz1 hz2 rfl (by decide) _ _ _ rfl (P7.out.alloc _) ⟨w1.heap.size + 1, 0, none⟩ 1 1 [.iface U (.pointer (some ⟨u, 0, none⟩)), .int .i32 0] rfl rfl (cell_two (RowAt.newAt (by simp))) ?_ ?_ ?_ ?_ ?_)
          · intro x hx
            simp at hx
            rcases hx with rfl | rfl <;> rfl
          · unfold maxLen; omega
          · omega
          · go_size
          intro v7 w4 o7 hg7 _
          have Q7 := Lib.hid o7
          have Q8 := Lib.hid (own_other (P7.out.alloc _) (P8.out.alloc _) (by decide) hg7)
          have KK4 := Lib.hid (KeptT.grown (P7.out.alloc _) hg7 (.inl rfl))
          have BB4 : Hid (Below (w.heap.size + 1) wr w4) := Below.grown (stepB (by omega) BB1.out (by go_grown)) hg7 (by go_size) (fun j hj => (own_row P7.out hj).2)
          have zz4 := hg7.size
          simp at zz4
          obtain ⟨a7, c7, rfl⟩ := shape o7
          clear o7 hg7 P7 P8
          go_wp2_with (at_builtin; refine wpList_append_own _ rfl (.tmp 73) (.tmp 75) 65 rfl (w.heap.size + 1) 33 i8 _ 1 1 Try.underlying65 ji jz0 jz1 jz2 rfl (by decide) _ _ _ rfl (Q8.out.alloc _) ⟨w4.heap.size, 0, none⟩ 1 1 [.int .i8 t] rfl rfl (cell_one_new _ _ _) ?_ ?_ ?_ ?_ ?_)
          · intro x hx
            simp at hx
            subst hx
            rfl
          · unfold maxLen; omega
          · omega
          · go_size
          intro v8 w5 o8 hg8 _
          have R8 := Lib.hid o8
          have R7 := Lib.hid (own_other (Q8.out.alloc _) (Q7.out.alloc _) (by decide) hg8)
          have KK5 := Lib.hid (KeptT.grown (Q8.out.alloc _) hg8 (.inr rfl))
          have BB5 : Hid (Below (w.heap.size + 1) wr w5) := Below.grown (stepB (by omega) BB4.out (by go_grown)) hg8 (by go_size) (fun j hj => (own_row Q8.out hj).2)
          have KA : Hid (KeptT w1 w5) := ((KeptT.below (by go_grown)).trans KK4.out).trans ((KeptT.below (by go_grown)).trans KK5.out)
          clear o8 hg8 Q7 Q8 KK4 KK5 BB4
          go_wp2_with fail
          go_roundw
          case rel => exact ⟨k + 1, by omega, fit_push (jj := jj) (by go_num) HL.out R7.out R8.out (fun x hx => ⟨(HGD.out x hx).1.kept (KK1.out.trans KA.out), (HGD.out x hx).2⟩) (HG.out.kept KA.out) HT.out (HR.out.below BB5.out (by omega)) (HB.out.trans (BB5.out.mono (by omega))) (by omega) (by omega)⟩
          case measure => simp [intOf]; omega
        · as_aux_lemma =>
          obtain ⟨q, hq⟩ : ∃ q : Nat, (jj : Int) % (mm : Int) = (q : Int) := ⟨jj % mm, by simp⟩
          have hq1 : q < mm := by
            have := Int.emod_lt_of_pos (jj : Int) (show (0 : Int) < mm by omega)
            omega
          obtain ⟨y, F, rfl, hy⟩ := HNS.out q hq1
          have hcF := later hy hb
          have hmp : (0 : Int) < (mm : Int) := by omega
          clear hy
          obtain ⟨i7, hi, hz0, hz1, hz2⟩ := info_parts info32
          obtain ⟨i8, ji, jz0, jz1, jz2⟩ := info_parts info33
          have HO7 := Lib.hid ho7
          have HO8 := Lib.hid ho8
          have HGD := Lib.hid hgd
          have HB := Lib.hid hb
          have HR := Lib.hid hrr
          have HL := Lib.hid hN
          have hzz := hrr.lt
          have HR := Lib.hid hrr
          clear ho7 ho8 hgd hrr hb hN
          go_wp2_with fail
          refine (leaf13 _ _ _ (by omega) (by omega)).mono ?_
          rintro e w1 ⟨U, u, t, rfl, hg, htr, hb1⟩
          have zz1 := hb1.size
          have P7 := Lib.hid ((own_below HO7.out hb1).alloc (.cells #[.iface U (.pointer (some ⟨u, 0, none⟩)), .int .i32 0] 32))
          have P8 := Lib.hid ((own_below HO8.out hb1).alloc (.cells #[.iface U (.pointer (some ⟨u, 0, none⟩)), .int .i32 0] 32))
          have HG := Lib.hid hg
          have HT := Lib.hid (show Tri t from htr)
          have KK1 := Lib.hid (KeptT.below hb1)
          have BB1 := Lib.hid (hb1.mono (show w.heap.size + 1 ≤ wr.heap.size by omega))
          clear hg htr hb1 HO7 HO8
          go_wp2_with (at_builtin; refine wpList_append_own _ rfl (.tmp 69) (.tmp 71) 64 rfl (w.heap.size + 1) 32 i7 _ 2 24 Try.underlying64 hi hz0 hz1 hz2 rfl (by decide) _ _ _ rfl (P7.out.alloc _) ⟨w1.heap.size + 1, 0, none⟩ 1 1 [.iface U (.pointer (some ⟨u, 0, none⟩)), .int .i32 0] rfl rfl (cell_two (RowAt.newAt (by simp))) ?_ ?_ ?_ ?_ ?_)
          · intro x hx
            simp at hx
            rcases hx with rfl | rfl <;> rfl
          · unfold maxLen; omega
          · omega
          · go_size
          intro v7 w4 o7 hg7 _
          have Q7 := Lib.hid o7
          have Q8 := Lib.hid (own_other (P7.out.alloc _) (P8.out.alloc _) (by decide) hg7)
          have KK4 := Lib.hid (KeptT.grown (P7.out.alloc _) hg7 (.inl rfl))
          have BB4 : Hid (Below (w.heap.size + 1) wr w4) := Below.grown (stepB (by omega) BB1.out (by go_grown)) hg7 (by go_size) (fun j hj => (own_row P7.out hj).2)
          have zz4 := hg7.size
          simp at zz4
          obtain ⟨a7, c7, rfl⟩ := shape o7
          clear o7 hg7 P7 P8
          go_wp2_with (at_builtin; refine wpList_append_own _ rfl (.tmp 73) (.tmp 75) 65 rfl (w.heap.size + 1) 33 i8 _ 1 1 Try.underlying65 ji jz0 jz1 jz2 rfl (by decide) _ _ _ rfl (Q8.out.alloc _) ⟨w4.heap.size, 0, none⟩ 1 1 [.int .i8 t] rfl rfl (cell_one_new _ _ _) ?_ ?_ ?_ ?_ ?_)
          · intro x hx
            simp at hx
            subst hx
            rfl
          · unfold maxLen; omega
          · omega
          · go_size
          intro v8 w5 o8 hg8 _
          have R8 := Lib.hid o8
          have R7 := Lib.hid (own_other (Q8.out.alloc _) (Q7.out.alloc _) (by decide) hg8)
          have KK5 := Lib.hid (KeptT.grown (Q8.out.alloc _) hg8 (.inr rfl))
          have BB5 : Hid (Below (w.heap.size + 1) wr w5) := Below.grown (stepB (by omega) BB4.out (by go_grown)) hg8 (by go_size) (fun j hj => (own_row Q8.out hj).2)
          have KA : Hid (KeptT w1 w5) := ((KeptT.below (by go_grown)).trans KK4.out).trans ((KeptT.below (by go_grown)).trans KK5.out)
          clear o8 hg8 Q7 Q8 KK4 KK5 BB4
          go_wp2_with fail
          go_roundw
          case rel => exact ⟨k + 1, by omega, fit_push (jj := jj + 1) (by go_num) HL.out R7.out R8.out (fun x hx => ⟨(HGD.out x hx).1.kept (KK1.out.trans KA.out), (HGD.out x hx).2⟩) (HG.out.kept KA.out) HT.out (HR.out.below BB5.out (by omega)) (HB.out.trans (BB5.out.mono (by omega))) (by omega) (by omega)⟩
          case measure => simp [intOf]; omega
      · as_aux_lemma =>
        have b4 : (op == 4) = false := by simpa using h4
        obtain ⟨i7, hi, hz0, hz1, hz2⟩ := info_parts info32
        obtain ⟨i8, ji, jz0, jz1, jz2⟩ := info_parts info33
        have HO7 := Lib.hid ho7
        have HO8 := Lib.hid ho8
        have HGD := Lib.hid hgd
        have HB := Lib.hid hb
        have HR := Lib.hid hrr
        have HL := Lib.hid hN
        have hzz := hrr.lt
        have HR := Lib.hid hrr
        clear ho7 ho8 hgd hrr hb hN
        go_wp2_with fail
        refine (leaf13 _ _ _ (by omega) (by omega)).mono ?_
        rintro e w1 ⟨U, u, t, rfl, hg, htr, hb1⟩
        have zz1 := hb1.size
        have P7 := Lib.hid ((own_below HO7.out hb1).alloc (.cells #[.iface U (.pointer (some ⟨u, 0, none⟩)), .int .i32 0] 32))
        have P8 := Lib.hid ((own_below HO8.out hb1).alloc (.cells #[.iface U (.pointer (some ⟨u, 0, none⟩)), .int .i32 0] 32))
        have HG := Lib.hid hg
        have HT := Lib.hid (show Tri t from htr)
        have KK1 := Lib.hid (KeptT.below hb1)
        have BB1 := Lib.hid (hb1.mono (show w.heap.size + 1 ≤ wr.heap.size by omega))
        clear hg htr hb1 HO7 HO8
        go_wp2_with (at_builtin; refine wpList_append_own _ rfl (.tmp 69) (.tmp 71) 64 rfl (w.heap.size + 1) 32 i7 _ 2 24 Try.underlying64 hi hz0 hz1 hz2 rfl (by decide) _ _ _ rfl (P7.out.alloc _) ⟨w1.heap.size + 1, 0, none⟩ 1 1 [.iface U (.pointer (some ⟨u, 0, none⟩)), .int .i32 0] rfl rfl (cell_two (RowAt.newAt (by simp))) ?_ ?_ ?_ ?_ ?_)
        · intro x hx
          simp at hx
          rcases hx with rfl | rfl <;> rfl
        · unfold maxLen; omega
        · omega
        · go_size
        intro v7 w4 o7 hg7 _
        have Q7 := Lib.hid o7
        have Q8 := Lib.hid (own_other (P7.out.alloc _) (P8.out.alloc _) (by decide) hg7)
        have KK4 := Lib.hid (KeptT.grown (P7.out.alloc _) hg7 (.inl rfl))
        have BB4 : Hid (Below (w.heap.size + 1) wr w4) := Below.grown (stepB (by omega) BB1.out (by go_grown)) hg7 (by go_size) (fun j hj => (own_row P7.out hj).2)
        have zz4 := hg7.size
        simp at zz4
        obtain ⟨a7, c7, rfl⟩ := shape o7
        clear o7 hg7 P7 P8
        go_wp2_with (at_builtin; refine wpList_append_own _ rfl (.tmp 73) (.tmp 75) 65 rfl (w.heap.size + 1) 33 i8 _ 1 1 Try.underlying65 ji jz0 jz1 jz2 rfl (by decide) _ _ _ rfl (Q8.out.alloc _) ⟨w4.heap.size, 0, none⟩ 1 1 [.int .i8 t] rfl rfl (cell_one_new _ _ _) ?_ ?_ ?_ ?_ ?_)
        · intro x hx
          simp at hx
          subst hx
          rfl
        · unfold maxLen; omega
        · omega
        · go_size
        intro v8 w5 o8 hg8 _
        have R8 := Lib.hid o8
        have R7 := Lib.hid (own_other (Q8.out.alloc _) (Q7.out.alloc _) (by decide) hg8)
        have KK5 := Lib.hid (KeptT.grown (Q8.out.alloc _) hg8 (.inr rfl))
        have BB5 : Hid (Below (w.heap.size + 1) wr w5) := Below.grown (stepB (by omega) BB4.out (by go_grown)) hg8 (by go_size) (fun j hj => (own_row Q8.out hj).2)
        have KA : Hid (KeptT w1 w5) := ((KeptT.below (by go_grown)).trans KK4.out).trans ((KeptT.below (by go_grown)).trans KK5.out)
        clear o8 hg8 Q7 Q8 KK4 KK5 BB4
        go_wp2_with fail
        go_roundw
        case rel => exact ⟨k + 1, by omega, fit_push (jj := jj) (by go_num) HL.out R7.out R8.out (fun x hx => ⟨(HGD.out x hx).1.kept (KK1.out.trans KA.out), (HGD.out x hx).2⟩) (HG.out.kept KA.out) HT.out (HR.out.below BB5.out (by omega)) (HB.out.trans (BB5.out.mono (by omega))) (by omega) (by omega)⟩
        case measure => simp [intOf]; omega
    · as_aux_lemma =>
      obtain ⟨L, ⟨U, u, t⟩, rfl⟩ := (snoc_cases st).resolve_left (fun e => by subst e; simp at hN; omega)
      · obtain ⟨m, hm⟩ : ∃ m, L.length = m := ⟨_, rfl⟩
        obtain rfl : N = m + 1 := by rw [hN, ← hm]; simp
        obtain ⟨g7, g8, rfl, rfl, hS, q7, q8, q9, q10⟩ := fit_open (by omega) hN ho7 ho8 hgd
        obtain ⟨e0, e1, e2⟩ := hS.cells (T := [])
        rw [hm] at e0 e1 e2
        dsimp only at e0 e1 e2
        have f7 := hS.fE
        have f8 := hS.fT
        have z7 := hS.lt7
        have z8 := hS.lt8
        have z7a : g7 < wr.heap.size + 1 := by omega
        have z7b : g7 < wr.heap.size + 1 + 1 := by omega
        have z7c : g7 < wr.heap.size + 1 + 1 + 1 := by omega
        have z8a : g8 < wr.heap.size + 1 := by omega
        have z8b : g8 < wr.heap.size + 1 + 1 := by omega
        have z8c : g8 < wr.heap.size + 1 + 1 + 1 := by omega
        have ne78 : ¬ g7 = g8 := by
          obtain ⟨cs, r1, _⟩ := hS.es
          obtain ⟨ds, r2, _⟩ := hS.ts
          exact r1.diff r2 (by decide)
        have HG := Lib.hid hS.goodAt
        have HS := Lib.hid hS
        have HM := Lib.hid hm
        have HB := Lib.hid hb
        have HR := Lib.hid hrr
        have HL := Lib.hid hN
        unfold maxLen at q9 q10
        clear hS ho7 ho8 hgd hrr hb hm hN
        go_wp2_with fail
        refine (not14 t _ HG.out.2).mono ?_
        rintro e wx ⟨rfl, rfl⟩
        go_wp2_with fail
        go_roundw
        case rel => exact ⟨k + 1, by omega, fit_put HS.out HM.out (by go_grown) (fun hk4 => good_not (HG.out.1.kept hk4) (RowAt.newAt (by go_size)) rfl rfl) (tri_not HG.out.2) HR.out HB.out (by omega) (by omega)⟩
        case measure => simp [intOf]; omega
    · as_aux_lemma =>
      obtain ⟨L, ⟨U, u, t⟩, rfl⟩ := (snoc_cases st).resolve_left (fun e => by subst e; simp at hN; omega)
      · obtain ⟨m, hm⟩ : ∃ m, L.length = m := ⟨_, rfl⟩
        obtain rfl : N = m + 1 := by rw [hN, ← hm]; simp
        obtain ⟨g7, g8, rfl, rfl, hS, q7, q8, q9, q10⟩ := fit_open (by omega) hN ho7 ho8 hgd
        obtain ⟨e0, e1, e2⟩ := hS.cells (T := [])
        rw [hm] at e0 e1 e2
        dsimp only at e0 e1 e2
        have f7 := hS.fE
        have f8 := hS.fT
        have z7 := hS.lt7
        have z8 := hS.lt8
        have z7a : g7 < wr.heap.size + 1 := by omega
        have z7b : g7 < wr.heap.size + 1 + 1 := by omega
        have z7c : g7 < wr.heap.size + 1 + 1 + 1 := by omega
        have z8a : g8 < wr.heap.size + 1 := by omega
        have z8b : g8 < wr.heap.size + 1 + 1 := by omega
        have z8c : g8 < wr.heap.size + 1 + 1 + 1 := by omega
        have ne78 : ¬ g7 = g8 := by
          obtain ⟨cs, r1, _⟩ := hS.es
          obtain ⟨ds, r2, _⟩ := hS.ts
          exact r1.diff r2 (by decide)
        have HG := Lib.hid hS.goodAt
        have HS := Lib.hid hS
        have HM := Lib.hid hm
        have HB := Lib.hid hb
        have HR := Lib.hid hrr
        have HL := Lib.hid hN
        unfold maxLen at q9 q10
        clear hS ho7 ho8 hgd hrr hb hm hN
        go_wp2_with fail
        go_roundw
        case rel => exact ⟨k + 1, by omega, fit_put HS.out HM.out (by go_grown) (fun hk4 => good_void (RowAt.newAt (by go_size)) rfl) (.inr (.inl rfl)) HR.out HB.out (by omega) (by omega)⟩
        case measure => simp [intOf]; omega
    · as_aux_lemma =>
      obtain ⟨L, ⟨U, u, t⟩, rfl⟩ := (snoc_cases st).resolve_left (fun e => by subst e; simp at hN; omega)
      · obtain ⟨m, hm⟩ : ∃ m, L.length = m := ⟨_, rfl⟩
        obtain rfl : N = m + 1 := by rw [hN, ← hm]; simp
        obtain ⟨g7, g8, rfl, rfl, hS, q7, q8, q9, q10⟩ := fit_open (by omega) hN ho7 ho8 hgd
        obtain ⟨e0, e1, e2⟩ := hS.cells (T := [])
        rw [hm] at e0 e1 e2
        dsimp only at e0 e1 e2
        have f7 := hS.fE
        have f8 := hS.fT
        have z7 := hS.lt7
        have z8 := hS.lt8
        have z7a : g7 < wr.heap.size + 1 := by omega
        have z7b : g7 < wr.heap.size + 1 + 1 := by omega
        have z7c : g7 < wr.heap.size + 1 + 1 + 1 := by omega
        have z8a : g8 < wr.heap.size + 1 := by omega
        have z8b : g8 < wr.heap.size + 1 + 1 := by omega
        have z8c : g8 < wr.heap.size + 1 + 1 + 1 := by omega
        have ne78 : ¬ g7 = g8 := by
          obtain ⟨cs, r1, _⟩ := hS.es
          obtain ⟨ds, r2, _⟩ := hS.ts
          exact r1.diff r2 (by decide)
        have HG := Lib.hid hS.goodAt
        have HS := Lib.hid hS
        have HM := Lib.hid hm
        have HB := Lib.hid hb
        have HR := Lib.hid hrr
        have HL := Lib.hid hN
        unfold maxLen at q9 q10
        clear hS ho7 ho8 hgd hrr hb hm hN
        go_wp2_with fail
        go_roundw
        case rel => exact ⟨k + 1, by omega, fit_put HS.out HM.out (by go_grown) (fun hk4 => good_typeof (RowAt.newAt (by go_size)) rfl rfl) (.inr (.inr rfl)) HR.out HB.out (by omega) (by omega)⟩
        case measure => simp [intOf]; omega
    · as_aux_lemma =>
      obtain ⟨L, ⟨U, u, t⟩, rfl⟩ := (snoc_cases st).resolve_left (fun e => by subst e; simp at hN; omega)
      · obtain ⟨m, hm⟩ : ∃ m, L.length = m := ⟨_, rfl⟩
        obtain rfl : N = m + 1 := by rw [hN, ← hm]; simp
        obtain ⟨g7, g8, rfl, rfl, hS, q7, q8, q9, q10⟩ := fit_open (by omega) hN ho7 ho8 hgd
        obtain ⟨e0, e1, e2⟩ := hS.cells (T := [])
        rw [hm] at e0 e1 e2
        dsimp only at e0 e1 e2
        have f7 := hS.fE
        have f8 := hS.fT
        have z7 := hS.lt7
        have z8 := hS.lt8
        have z7a : g7 < wr.heap.size + 1 := by omega
        have z7b : g7 < wr.heap.size + 1 + 1 := by omega
        have z7c : g7 < wr.heap.size + 1 + 1 + 1 := by omega
        have z8a : g8 < wr.heap.size + 1 := by omega
        have z8b : g8 < wr.heap.size + 1 + 1 := by omega
        have z8c : g8 < wr.heap.size + 1 + 1 + 1 := by omega
        have ne78 : ¬ g7 = g8 := by
          obtain ⟨cs, r1, _⟩ := hS.es
          obtain ⟨ds, r2, _⟩ := hS.ts
          exact r1.diff r2 (by decide)
        have HG := Lib.hid hS.goodAt
        have HS := Lib.hid hS
        have HM := Lib.hid hm
        have HB := Lib.hid hb
        have HR := Lib.hid hrr
        have HL := Lib.hid hN
        unfold maxLen at q9 q10
        clear hS ho7 ho8 hgd hrr hb hm hN
        go_wp2_with fail
        go_roundw
        case rel => exact ⟨k + 1, by omega, fit_put HS.out HM.out (by go_grown) (fun hk4 => good_ann (HG.out.1.kept hk4) (RowAt.newAt (by go_size)) 1 (.inr rfl) rfl rfl) HG.out.2 HR.out HB.out (by omega) (by omega)⟩
        case measure => simp [intOf]; omega
    · as_aux_lemma =>
      obtain ⟨L, ⟨U, u, t⟩, rfl⟩ := (snoc_cases st).resolve_left (fun e => by subst e; simp at hN; omega)
      · obtain ⟨m, hm⟩ : ∃ m, L.length = m := ⟨_, rfl⟩
        obtain rfl : N = m + 1 := by rw [hN, ← hm]; simp
        obtain ⟨g7, g8, rfl, rfl, hS, q7, q8, q9, q10⟩ := fit_open (by omega) hN ho7 ho8 hgd
        obtain ⟨e0, e1, e2⟩ := hS.cells (T := [])
        rw [hm] at e0 e1 e2
        dsimp only at e0 e1 e2
        have f7 := hS.fE
        have f8 := hS.fT
        have z7 := hS.lt7
        have z8 := hS.lt8
        have z7a : g7 < wr.heap.size + 1 := by omega
        have z7b : g7 < wr.heap.size + 1 + 1 := by omega
        have z7c : g7 < wr.heap.size + 1 + 1 + 1 := by omega
        have z8a : g8 < wr.heap.size + 1 := by omega
        have z8b : g8 < wr.heap.size + 1 + 1 := by omega
        have z8c : g8 < wr.heap.size + 1 + 1 + 1 := by omega
        have ne78 : ¬ g7 = g8 := by
          obtain ⟨cs, r1, _⟩ := hS.es
          obtain ⟨ds, r2, _⟩ := hS.ts
          exact r1.diff r2 (by decide)
        have HG := Lib.hid hS.goodAt
        have HS := Lib.hid hS
        have HM := Lib.hid hm
        have HB := Lib.hid hb
        have HR := Lib.hid hrr
        have HL := Lib.hid hN
        unfold maxLen at q9 q10
        clear hS ho7 ho8 hgd hrr hb hm hN
        go_wp2_with fail
        go_roundw
        case rel => exact ⟨k + 1, by omega, fit_put HS.out HM.out (by go_grown) (fun hk4 => good_ann (HG.out.1.kept hk4) (RowAt.newAt (by go_size)) 0 (.inl rfl) rfl rfl) HG.out.2 HR.out HB.out (by omega) (by omega)⟩
        case measure => simp [intOf]; omega
    · as_aux_lemma =>
      obtain ⟨L, ⟨U, u, t⟩, rfl⟩ := (snoc_cases st).resolve_left (fun e => by subst e; simp at hN; omega)
      · obtain ⟨m, hm⟩ : ∃ m, L.length = m := ⟨_, rfl⟩
        obtain rfl : N = m + 1 := by rw [hN, ← hm]; simp
        obtain ⟨g7, g8, rfl, rfl, hS, q7, q8, q9, q10⟩ := fit_open (by omega) hN ho7 ho8 hgd
        obtain ⟨e0, e1, e2⟩ := hS.cells (T := [])
        rw [hm] at e0 e1 e2
        dsimp only at e0 e1 e2
        have f7 := hS.fE
        have f8 := hS.fT
        have z7 := hS.lt7
        have z8 := hS.lt8
        have z7a : g7 < wr.heap.size + 1 := by omega
        have z7b : g7 < wr.heap.size + 1 + 1 := by omega
        have z7c : g7 < wr.heap.size + 1 + 1 + 1 := by omega
        have z8a : g8 < wr.heap.size + 1 := by omega
        have z8b : g8 < wr.heap.size + 1 + 1 := by omega
        have z8c : g8 < wr.heap.size + 1 + 1 + 1 := by omega
        have ne78 : ¬ g7 = g8 := by
          obtain ⟨cs, r1, _⟩ := hS.es
          obtain ⟨ds, r2, _⟩ := hS.ts
          exact r1.diff r2 (by decide)
        have HG := Lib.hid hS.goodAt
        have HS := Lib.hid hS
        have HM := Lib.hid hm
        have HB := Lib.hid hb
        have HR := Lib.hid hrr
        have HL := Lib.hid hN
        unfold maxLen at q9 q10
        clear hS ho7 ho8 hgd hrr hb hm hN
        go_wp2_with fail
        go_roundw
        case rel => exact ⟨k + 1, by omega, fit_put HS.out HM.out (by go_grown) (fun hk4 => good_enum (HG.out.1.kept hk4) (RowAt.newAt (by go_size)) rfl) HG.out.2 HR.out HB.out (by omega) (by omega)⟩
        case measure => simp [intOf]; omega
    · as_aux_lemma =>
      obtain ⟨L1, ⟨U, u, t⟩, rfl⟩ := (snoc_cases st).resolve_left (fun e => by subst e; simp at hN; omega)
      obtain ⟨L, ⟨U1, u1, t1⟩, rfl⟩ := (snoc_cases L1).resolve_left (fun e => by subst e; simp at hN; omega)
      · obtain ⟨m, hm⟩ : ∃ m, L.length = m := ⟨_, rfl⟩
        obtain rfl : N = m + 1 + 1 := by rw [hN, ← hm]; simp
        obtain ⟨g7, g8, rfl, rfl, hS, q7, q8, q9, q10⟩ := fit_open (by omega) hN ho7 ho8 hgd
        obtain ⟨e0, e1, e2⟩ := hS.cells (L := L ++ [(U1, u1, t1)]) (T := [])
        obtain ⟨d0, d1, d2⟩ := (hS.shrink (T := [(U, u, t)])).cells (T := [])
        rw [show (L ++ [(U1, u1, t1)]).length = m + 1 by simp [hm]] at e0 e1 e2
        rw [hm] at d0 d1 d2
        dsimp only at e0 e1 e2 d0 d1 d2
        have f7 := hS.fE
        have f8 := hS.fT
        have z7 := hS.lt7
        have z8 := hS.lt8
        have z7a : g7 < wr.heap.size + 1 := by omega
        have z7b : g7 < wr.heap.size + 1 + 1 := by omega
        have z7c : g7 < wr.heap.size + 1 + 1 + 1 := by omega
        have z8a : g8 < wr.heap.size + 1 := by omega
        have z8b : g8 < wr.heap.size + 1 + 1 := by omega
        have z8c : g8 < wr.heap.size + 1 + 1 + 1 := by omega
        have ne78 : ¬ g7 = g8 := by
          obtain ⟨cs, r1, _⟩ := hS.es
          obtain ⟨ds, r2, _⟩ := hS.ts
          exact r1.diff r2 (by decide)
        have HG := Lib.hid (hS.goodAt (L := L ++ [(U1, u1, t1)]) (T := []))
        have HG1 := Lib.hid ((hS.shrink (T := [(U, u, t)])).goodAt (T := []))
        have HS := Lib.hid (hS.shrink (T := [(U, u, t)]))
        have HM := Lib.hid hm
        have HB := Lib.hid hb
        have HR := Lib.hid hrr
        have HL := Lib.hid hN
        unfold maxLen at q9 q10
        clear hS ho7 ho8 hgd hrr hb hm hN
        go_wp2_with fail
        refine (or15 t1 t _ HG1.out.2 HG.out.2).mono ?_
        rintro e wx ⟨rfl, rfl⟩
        go_wp2_with fail
        go_roundw
        case rel => exact ⟨k + 1, by omega, fit_put HS.out HM.out (by go_grown) (fun hk4 => good_or t1 (HG.out.1.kept hk4) (RowAt.newAt (by go_size)) rfl rfl) (tri_or HG1.out.2 HG.out.2) HR.out HB.out (by omega) (by omega)⟩
        case measure => simp [intOf]; omega
    · as_aux_lemma =>
      obtain ⟨L1, ⟨U, u, t⟩, rfl⟩ := (snoc_cases st).resolve_left (fun e => by subst e; simp at hN; omega)
      obtain ⟨L, ⟨U1, u1, t1⟩, rfl⟩ := (snoc_cases L1).resolve_left (fun e => by subst e; simp at hN; omega)
      · obtain ⟨m, hm⟩ : ∃ m, L.length = m := ⟨_, rfl⟩
        obtain rfl : N = m + 1 + 1 := by rw [hN, ← hm]; simp
        obtain ⟨g7, g8, rfl, rfl, hS, q7, q8, q9, q10⟩ := fit_open (by omega) hN ho7 ho8 hgd
        obtain ⟨e0, e1, e2⟩ := hS.cells (L := L ++ [(U1, u1, t1)]) (T := [])
        obtain ⟨d0, d1, d2⟩ := (hS.shrink (T := [(U, u, t)])).cells (T := [])
        rw [show (L ++ [(U1, u1, t1)]).length = m + 1 by simp [hm]] at e0 e1 e2
        rw [hm] at d0 d1 d2
        dsimp only at e0 e1 e2 d0 d1 d2
        have f7 := hS.fE
        have f8 := hS.fT
        have z7 := hS.lt7
        have z8 := hS.lt8
        have z7a : g7 < wr.heap.size + 1 := by omega
        have z7b : g7 < wr.heap.size + 1 + 1 := by omega
        have z7c : g7 < wr.heap.size + 1 + 1 + 1 := by omega
        have z8a : g8 < wr.heap.size + 1 := by omega
        have z8b : g8 < wr.heap.size + 1 + 1 := by omega
        have z8c : g8 < wr.heap.size + 1 + 1 + 1 := by omega
        have ne78 : ¬ g7 = g8 := by
          obtain ⟨cs, r1, _⟩ := hS.es
          obtain ⟨ds, r2, _⟩ := hS.ts
          exact r1.diff r2 (by decide)
        have HG := Lib.hid (hS.goodAt (L := L ++ [(U1, u1, t1)]) (T := []))
        have HG1 := Lib.hid ((hS.shrink (T := [(U, u, t)])).goodAt (T := []))
        have HS := Lib.hid (hS.shrink (T := [(U, u, t)]))
        have HM := Lib.hid hm
        have HB := Lib.hid hb
        have HR := Lib.hid hrr
        have HL := Lib.hid hN
        unfold maxLen at q9 q10
        clear hS ho7 ho8 hgd hrr hb hm hN
        go_wp2_with fail
        refine (and16 t1 t _ HG1.out.2 HG.out.2).mono ?_
        rintro e wx ⟨rfl, rfl⟩
        go_wp2_with fail
        go_roundw
        case rel => exact ⟨k + 1, by omega, fit_put HS.out HM.out (by go_grown) (fun hk4 => good_and t1 (HG.out.1.kept hk4) (RowAt.newAt (by go_size)) rfl rfl) (tri_and HG1.out.2 HG.out.2) HR.out HB.out (by omega) (by omega)⟩
        case measure => simp [intOf]; omega
    · as_aux_lemma =>
      obtain ⟨L1, ⟨U, u, t⟩, rfl⟩ := (snoc_cases st).resolve_left (fun e => by subst e; simp at hN; omega)
      obtain ⟨L, ⟨U1, u1, t1⟩, rfl⟩ := (snoc_cases L1).resolve_left (fun e => by subst e; simp at hN; omega)
      · obtain ⟨m, hm⟩ : ∃ m, L.length = m := ⟨_, rfl⟩
        obtain rfl : N = m + 1 + 1 := by rw [hN, ← hm]; simp
        obtain ⟨g7, g8, rfl, rfl, hS, q7, q8, q9, q10⟩ := fit_open (by omega) hN ho7 ho8 hgd
        obtain ⟨e0, e1, e2⟩ := hS.cells (L := L ++ [(U1, u1, t1)]) (T := [])
        obtain ⟨d0, d1, d2⟩ := (hS.shrink (T := [(U, u, t)])).cells (T := [])
        rw [show (L ++ [(U1, u1, t1)]).length = m + 1 by simp [hm]] at e0 e1 e2
        rw [hm] at d0 d1 d2
        dsimp only at e0 e1 e2 d0 d1 d2
        have f7 := hS.fE
        have f8 := hS.fT
        have z7 := hS.lt7
        have z8 := hS.lt8
        have z7a : g7 < wr.heap.size + 1 := by omega
        have z7b : g7 < wr.heap.size + 1 + 1 := by omega
        have z7c : g7 < wr.heap.size + 1 + 1 + 1 := by omega
        have z8a : g8 < wr.heap.size + 1 := by omega
        have z8b : g8 < wr.heap.size + 1 + 1 := by omega
        have z8c : g8 < wr.heap.size + 1 + 1 + 1 := by omega
        have ne78 : ¬ g7 = g8 := by
          obtain ⟨cs, r1, _⟩ := hS.es
          obtain ⟨ds, r2, _⟩ := hS.ts
          exact r1.diff r2 (by decide)
        have HG := Lib.hid (hS.goodAt (L := L ++ [(U1, u1, t1)]) (T := []))
        have HG1 := Lib.hid ((hS.shrink (T := [(U, u, t)])).goodAt (T := []))
        have HS := Lib.hid (hS.shrink (T := [(U, u, t)]))
        have HM := Lib.hid hm
        have HB := Lib.hid hb
        have HR := Lib.hid hrr
        have HL := Lib.hid hN
        unfold maxLen at q9 q10
        clear hS ho7 ho8 hgd hrr hb hm hN
        go_wp2_with fail
        go_roundw
        case rel => exact ⟨k + 1, by omega, fit_put HS.out HM.out (by go_grown) (fun hk4 => good_comma (HG.out.1.kept hk4) (RowAt.newAt (by go_size)) rfl rfl) HG.out.2 HR.out HB.out (by omega) (by omega)⟩
        case measure => simp [intOf]; omega
    · as_aux_lemma =>
      have h20a : 20 ≤ op := by omega
      clear h20
      obtain ⟨L1, ⟨U, u, t⟩, rfl⟩ := (snoc_cases st).resolve_left (fun e => by subst e; simp at hN; omega)
      obtain ⟨L2, ⟨U1, u1, t1⟩, rfl⟩ := (snoc_cases L1).resolve_left (fun e => by subst e; simp at hN; omega)
      obtain ⟨L, ⟨U2, u2, t2⟩, rfl⟩ := (snoc_cases L2).resolve_left (fun e => by subst e; simp at hN; omega)
      · obtain ⟨m, hm⟩ : ∃ m, L.length = m := ⟨_, rfl⟩
        obtain rfl : N = m + 1 + 1 + 1 := by rw [hN, ← hm]; simp
        obtain ⟨g7, g8, rfl, rfl, hS, q7, q8, q9, q10⟩ := fit_open (by omega) hN ho7 ho8 hgd
        have hS2 := hS.shrink (T := [(U, u, t)])
        have hS3 := hS2.shrink (T := [(U1, u1, t1)])
        obtain ⟨e0, e1, e2⟩ := hS.cells (L := L ++ [(U2, u2, t2)] ++ [(U1, u1, t1)]) (T := [])
        obtain ⟨d0, d1, d2⟩ := hS2.cells (L := L ++ [(U2, u2, t2)]) (T := [])
        obtain ⟨b0, b1, b2⟩ := hS3.cells (T := [])
        rw [show (L ++ [(U2, u2, t2)] ++ [(U1, u1, t1)]).length = m + 1 + 1 by simp [hm]] at e0 e1 e2
        rw [show (L ++ [(U2, u2, t2)]).length = m + 1 by simp [hm]] at d0 d1 d2
        rw [hm] at b0 b1 b2
        dsimp only at e0 e1 e2 d0 d1 d2 b0 b1 b2
        have f7 := hS.fE
        have f8 := hS.fT
        have z7 := hS.lt7
        have z8 := hS.lt8
        have z7a : g7 < wr.heap.size + 1 := by omega
        have z7b : g7 < wr.heap.size + 1 + 1 := by omega
        have z7c : g7 < wr.heap.size + 1 + 1 + 1 := by omega
        have z8a : g8 < wr.heap.size + 1 := by omega
        have z8b : g8 < wr.heap.size + 1 + 1 := by omega
        have z8c : g8 < wr.heap.size + 1 + 1 + 1 := by omega
        have ne78 : ¬ g7 = g8 := by
          obtain ⟨cs, r1, _⟩ := hS.es
          obtain ⟨ds, r2, _⟩ := hS.ts
          exact r1.diff r2 (by decide)
        have HT := Lib.hid (hS.goodAt (L := L ++ [(U2, u2, t2)] ++ [(U1, u1, t1)]) (T := [])).2
        have HT1 := Lib.hid (hS2.goodAt (L := L ++ [(U2, u2, t2)]) (T := [])).2
        have HT2 := Lib.hid (hS3.goodAt (T := [])).2
        have HS := Lib.hid hS3
        have HM := Lib.hid hm
        have HB := Lib.hid hb
        have HR := Lib.hid hrr
        have HL := Lib.hid hN
        unfold maxLen at q9 q10
        clear hS hS2 hS3 ho7 ho8 hgd hrr hb hm hN
        go_upto_region 63 with (fail)
        have hw3 : IntKind.i64.wrap ((m : Int) + 1 + 1 + 1 - 3) = (m : Int) := by rw [IntWalk.i64_in _ (by omega)]; omega
        have hw2 : IntKind.i64.wrap ((m : Int) + 1 + 1 + 1 - 2) = (m : Int) + 1 := by rw [IntWalk.i64_in _ (by omega)]; omega
        have hw1 : IntKind.i64.wrap ((m : Int) + 1 + 1 + 1 - 1) = (m : Int) + 1 + 1 := by rw [IntWalk.i64_in _ (by omega)]; omega
        have ht2 : ((m : Int) + 1).toNat = m + 1 := by omega
        have ht1 : ((m : Int) + 1 + 1).toNat = m + 1 + 1 := by omega
        go_quiet ((go_at_call 17; exact quiet17 (cond17 _ _ _ _ HT2.out HT1.out HT.out)))
        clear hw1 hw2 hw3 ht1 ht2
        go_upto_region 66 with (fail)
        simp only [show m + 1 + 1 + 1 - 2 = m + 1 from by omega]
        have A0 : Below wr.heap.size wr ((((wr.alloc (.cells #[.iface U2 (.pointer (some ⟨u2, 0, none⟩)), .int .i32 0] 32)).alloc (.cells #[.iface U1 (.pointer (some ⟨u1, 0, none⟩)), .int .i32 0] 32)).alloc (.cells #[.iface U (.pointer (some ⟨u, 0, none⟩)), .int .i32 0] 32)).drewN nq) := below_drewN (by go_grown) nq
        have A1 : RowAt ((((wr.alloc (.cells #[.iface U2 (.pointer (some ⟨u2, 0, none⟩)), .int .i32 0] 32)).alloc (.cells #[.iface U1 (.pointer (some ⟨u1, 0, none⟩)), .int .i32 0] 32)).alloc (.cells #[.iface U (.pointer (some ⟨u, 0, none⟩)), .int .i32 0] 32)).drewN nq) wr.heap.size #[.iface U2 (.pointer (some ⟨u2, 0, none⟩)), .int .i32 0] 32 := ((RowAt.new wr _ _).alloc _).alloc _
        have A2 : RowAt ((((wr.alloc (.cells #[.iface U2 (.pointer (some ⟨u2, 0, none⟩)), .int .i32 0] 32)).alloc (.cells #[.iface U1 (.pointer (some ⟨u1, 0, none⟩)), .int .i32 0] 32)).alloc (.cells #[.iface U (.pointer (some ⟨u, 0, none⟩)), .int .i32 0] 32)).drewN nq) (wr.heap.size + 1) #[.iface U1 (.pointer (some ⟨u1, 0, none⟩)), .int .i32 0] 32 := RowAt.alloc (RowAt.newAt (by simp)) _
        have A3 : RowAt ((((wr.alloc (.cells #[.iface U2 (.pointer (some ⟨u2, 0, none⟩)), .int .i32 0] 32)).alloc (.cells #[.iface U1 (.pointer (some ⟨u1, 0, none⟩)), .int .i32 0] 32)).alloc (.cells #[.iface U (.pointer (some ⟨u, 0, none⟩)), .int .i32 0] 32)).drewN nq) (wr.heap.size + 1 + 1) #[.iface U (.pointer (some ⟨u, 0, none⟩)), .int .i32 0] 32 := RowAt.drewN (RowAt.newAt (by simp)) nq
        generalize hW : (((wr.alloc (.cells #[.iface U2 (.pointer (some ⟨u2, 0, none⟩)), .int .i32 0] 32)).alloc (.cells #[.iface U1 (.pointer (some ⟨u1, 0, none⟩)), .int .i32 0] 32)).alloc (.cells #[.iface U (.pointer (some ⟨u, 0, none⟩)), .int .i32 0] 32)).drewN nq = W at A0 A1 A2 A3 ⊢
        clear hW
        have k0 := A1.cellv (j := 0) (v := .iface U2 (.pointer (some ⟨u2, 0, none⟩))) rfl
        have k1 := A1.cellv (j := 1) (v := .int .i32 0) rfl
        have k2 := A2.cellv (j := 0) (v := .iface U1 (.pointer (some ⟨u1, 0, none⟩))) rfl
        have k3 := A2.cellv (j := 1) (v := .int .i32 0) rfl
        have k4 := A3.cellv (j := 0) (v := .iface U (.pointer (some ⟨u, 0, none⟩))) rfl
        have k5 := A3.cellv (j := 1) (v := .int .i32 0) rfl
        have l0 := A3.lt
        have m0 := later b0 A0
        have m1 := later b1 A0
        have m2 := later b2 A0
        have HSW := Lib.hid (HS.out.below A0)
        have HRW := Lib.hid (HR.out.below A0 HR.out.lt)
        have HBW := Lib.hid (HB.out.trans (A0.mono HB.out.size))
        have F7 := HSW.out.fE
        have F8 := HSW.out.fT
        have L7 := HSW.out.lt7
        have L8 := HSW.out.lt8
        clear A0 A1 A2 A3 e0 e1 e2 d0 d1 d2 b0 b1 b2 f7 f8 z7 z8 z7a z7b z7c z8a z8b z8c HS HR HB
        go_wp2_with (refine wpList_build rfl 87 _ rfl #[(0, .agg #[.iface U2 (.pointer (some ⟨u2, 0, none⟩)), .int .i32 0]), (1, .agg #[.iface U1 (.pointer (some ⟨u1, 0, none⟩)), .int .i32 0]), (2, .agg #[.iface U (.pointer (some ⟨u, 0, none⟩)), .int .i32 0])] (by simp [Act.eval, Act.put]) _ (b87 _ _ _ _) ?_)
        go_roundw
        case rel => exact ⟨k + 1, by omega, fit_put HSW.out HM.out (by go_grown) (fun hk4 => good_if _) (tri_cond HT2.out HT1.out HT.out) HRW.out HBW.out (by omega) (by omega)⟩
        case measure => simp [intOf]; omega


end Go.Proofs.Ytmbbabikbmkjpab.fnToBooleanSoundAgainstJSTruthiness
