import Derived.Test.YtailfkedgdlldaaKit
import Derived.Test.YtailfkedgdlldaaRdG
namespace Go.Proofs.Ytailfkedgdlldaa
open Go.ChangeShapes Go.WideShapes Go.ChangeAt Go.RowKit
set_option linter.unusedVariables false
set_option maxRecDepth 100000
set_option maxHeartbeats 2000000

theorem rec_low_tf (p q S cur mod mm B k : Nat) (v : Value) (x : Fx) (L : List Nat) (w : World) (hs : Sc w S cur mod mm x) (hp : Pa w p q S cur mod B v x L) (htop : x.top = false) (hH : (x.kd k == 1 || x.kd k == 2) = true) (hm1 : (x.ma k == 1) = true) (hm2 : (x.mb k == (k : Int)) = false) (hk : k < x.n) (hn : x.n ≤ 65537) (hL : L.length ≤ 65536) (hB : B ≤ w.heap.size) :
    Calls Try.prog 35 #[.pointer (some ⟨p, 0, none⟩), .agg #[.int .u32 1, .int .u32 k]] w (Recd w p q S cur mod mm B x (L ++ [k])) := by
  obtain ⟨i0, hi, hz0, hz1, hz2⟩ := info_parts info83
  obtain ⟨⟨pc, r1, r2, r3, r4, r5⟩, ⟨qc, d1, d2, d3⟩, ho⟩ := id hp
  obtain ⟨⟨sc, s1, s2⟩, ⟨mc, m1, m2⟩, hc, ⟨F, cnt, f1, f2⟩⟩ := id hs
  rw [if_neg (by rw [htop]; decide)] at hc
  obtain ⟨hne, cc, g1⟩ := hc
  have c1 := r1.cellv r2
  have c2 := r1.cellv r5
  have c3 := r1.cellv r4
  have pe : ∀ n, (binOp .eql 75 (.pointer (some ⟨cur, 0, none⟩)) (.pointer (some ⟨mod, 0, none⟩))).run Try.prog ((w.alloc (.cells #[.int .u32 1, .int .u32 k] 37)).drewN n) = .ok (.bool false) ((w.alloc (.cells #[.int .u32 1, .int .u32 k] 37)).drewN n) := fun n => eqlOther (W := (w.alloc (.cells #[.int .u32 1, .int .u32 k] 37)).drewN n) hne (g1.alloc _) (m1.alloc _)
  have z1 := r1.lt
  have z2 := s1.lt
  have y0 := s1.cellv (s2 k hk 0 _ rfl)
  have y1 := s1.cellv (s2 k hk 1 _ rfl)
  have y2 := s1.cellv (s2 k hk 2 _ rfl)
  have y3 := s1.cellv (s2 k hk 3 _ rfl)
  have y4 := s1.cellv (s2 k hk 4 _ rfl)
  have y5 := s1.cellv (s2 k hk 5 _ rfl)
  have y6 := s1.cellv (s2 k hk 6 _ rfl)
  have y7 := s1.cellv (s2 k hk 7 _ rfl)
  have y8 := s1.cellv (s2 k hk 8 _ rfl)
  have y9 := s1.cellv (s2 k hk 9 _ rfl)
  simp only [Nat.add_zero] at y0
  have k0 : (0 : Int) ≤ (k : Int) := by omega
  have k1 : (k : Int) < (x.n : Int) := by omega
  have HS := Lib.hid hs
  have HP := Lib.hid hp
  have HT := Lib.hid htop
  have HH := Lib.hid hH
  have HK := Lib.hid hk
  have HM1 := Lib.hid hm1
  have HM2 := Lib.hid hm2
  have HY := Lib.hid (hoist37 _ _ hH)
  clear hs hp r1 r2 r3 r4 r5 d1 d2 d3 ho htop hH m1 m2 f1 f2 g1 s1 s2 hk
  go_enter Try.func35, Try.ntmps35
  go_wp2_with fail
  go_quiet (fail)
  go_wp2_with fail
  go_region_held3 (fun w' => w'.cell? ⟨p, 106, none⟩ = some (.slice (some ⟨S, 0, none⟩) x.n x.n) ∧ w'.cell? ⟨w.heap.size, 1, none⟩ = some (.int .u32 k) ∧ w'.cell? ⟨S, k * 10, none⟩ = some (.pointer none) ∧ w'.cell? ⟨S, k * 10 + 1, none⟩ = some (.string (x.nm k)) ∧ w'.cell? ⟨S, k * 10 + 2, none⟩ = some (.int .u32 0) ∧ w'.cell? ⟨S, k * 10 + 3, none⟩ = some (.int .u32 0) ∧ w'.cell? ⟨S, k * 10 + 4, none⟩ = some (.int .u32 0) ∧ w'.cell? ⟨S, k * 10 + 5, none⟩ = some (.int .u32 0) ∧ w'.cell? ⟨S, k * 10 + 6, none⟩ = some (.int .u32 0) ∧ w'.cell? ⟨S, k * 10 + 7, none⟩ = some (.int .u16 0) ∧ w'.cell? ⟨S, k * 10 + 8, none⟩ = some (.int .u8 (x.kd k)) ∧ w'.cell? ⟨S, k * 10 + 9, none⟩ = some (.int .u8 0)) (go_keep) (fail)
  go_wp2_with fail
  have hbw : Below w.heap.size w (((w.alloc (.cells #[.int .u32 1, .int .u32 k] 37)).drewN (nq + 1)).alloc (.cells #[.pointer none, .string (x.nm k), .int .u32 0, .int .u32 0, .int .u32 0, .int .u32 0, .int .u32 0, .int .u16 0, .int .u8 (x.kd k), .int .u8 0] 70)) := ⟨rfl, rfl, rfl, by simp; omega, fun j hj => (Below.heap_alloc _ _ _ (by simp; omega)).trans (Below.heap_alloc _ _ _ hj)⟩
  have A1 := HP.out.later hbw
  have A2 := HS.out.later hbw
  have A3 : RowAt (((w.alloc (.cells #[.int .u32 1, .int .u32 k] 37)).drewN (nq + 1)).alloc (.cells #[.pointer none, .string (x.nm k), .int .u32 0, .int .u32 0, .int .u32 0, .int .u32 0, .int .u32 0, .int .u16 0, .int .u8 (x.kd k), .int .u8 0] 70)) w.heap.size #[.int .u32 1, .int .u32 k] 37 := RowAt.alloc (RowAt.new w _ _) _
  have A5 : RowAt (((w.alloc (.cells #[.int .u32 1, .int .u32 k] 37)).drewN (nq + 1)).alloc (.cells #[.pointer none, .string (x.nm k), .int .u32 0, .int .u32 0, .int .u32 0, .int .u32 0, .int .u32 0, .int .u16 0, .int .u8 (x.kd k), .int .u8 0] 70)) (w.heap.size + 1) #[.pointer none, .string (x.nm k), .int .u32 0, .int .u32 0, .int .u32 0, .int .u32 0, .int .u32 0, .int .u16 0, .int .u8 (x.kd k), .int .u8 0] 70 := RowAt.newAt (by simp)
  have A4 : Fr (RX q B) w (((w.alloc (.cells #[.int .u32 1, .int .u32 k] 37)).drewN (nq + 1)).alloc (.cells #[.pointer none, .string (x.nm k), .int .u32 0, .int .u32 0, .int .u32 0, .int .u32 0, .int .u32 0, .int .u16 0, .int .u8 (x.kd k), .int .u8 0] 70)) := Fr.of_below hbw
  generalize hW1 : ((w.alloc (.cells #[.int .u32 1, .int .u32 k] 37)).drewN (nq + 1)).alloc (.cells #[.pointer none, .string (x.nm k), .int .u32 0, .int .u32 0, .int .u32 0, .int .u32 0, .int .u32 0, .int .u16 0, .int .u8 (x.kd k), .int .u8 0] 70) = W1 at A1 A2 A3 A4 A5 ⊢
  clear hW1 c1 c2 c3 pe z1 z2 y0 y1 y2 y3 y4 y5 y6 y7 y8 y9 k0 k1 HS HP hbw
  obtain ⟨⟨pc, r1, r2, r3, r4, r5⟩, _, _⟩ := id A1
  obtain ⟨_, ⟨mc, m1, m2⟩, _, ⟨F, cnt, f1, f2⟩⟩ := id A2
  obtain ⟨c, hc⟩ := f2 k HK.out
  have c2 := r1.cellv r5
  have cm := m1.cellv m2
  have z1 := r1.lt
  have z2 := m1.lt
  have e1 := A5.cellv (j := 1) (v := .string (x.nm k)) rfl
  have e8 := A5.cellv (j := 8) (v := .int .u8 (x.kd k)) rfl
  have e2 := A3.cellv (j := 0) (v := .int .u32 1) rfl
  have e3 := A3.cellv (j := 1) (v := .int .u32 k) rfl
  have z3 := A5.lt
  have lk : ∀ n, (Instr.lookup 198 (.map (some mm)) (.string (x.nm k)) false).run Try.prog (W1.drewN n) = .ok (.agg #[.int .u32 (x.ma k), .int .u32 (x.mb k), .int .i32 c]) (W1.drewN n) := fun n => by
    have := (f1.kept (w' := W1.drewN n) rfl).look keyS Try.underlying198 (zero225 _) (v := .string (x.nm k)) ⟨_, rfl⟩ false
    rw [lookRes_false', hc] at this
    exact this
  have HA1 := Lib.hid A1
  have HA2 := Lib.hid A2
  have HA3 := Lib.hid A3
  have HA4 := Lib.hid A4
  clear A1 A2 A3 A4 A5 r1 r2 r3 r4 r5 m1 m2 f1 f2 hc
  have hfl := field225
  go_quiet ((go_at_call 37; exact Calls.quiet_of_same (HY.out _)))
  go_wp2_with fail
  have A1 := HA1.out.later (w' := W1.drewN nq) (below_drewN' (Below.refl _ _) nq)
  have A2 := HA2.out.later (w' := W1.drewN nq) (below_drewN' (Below.refl _ _) nq)
  have A3 : RowAt (W1.drewN nq) w.heap.size #[.int .u32 1, .int .u32 k] 37 := HA3.out
  have A4 := HA4.out.trans (Fr.of_below (X := RX q B) (w' := W1.drewN nq) (below_drewN' (Below.refl _ _) nq))
  clear c2 cm z1 z2 e1 e8 e2 e3 z3 lk HA1 HA2 HA3 HA4
  generalize hW : W1.drewN nq = W at A1 A2 A3 A4 ⊢
  clear hW
  obtain ⟨⟨pc, r1, r2, r3, r4, r5⟩, ⟨qc, d1, d2, d3⟩, ho⟩ := id A1
  have c3 := r1.cellv r3
  have c4 := d1.cellv d3
  have f4 := d1.frozen 3
  have b0 := A3.cellv (j := 0) (v := .int .u32 1) rfl
  have b1 := A3.cellv (j := 1) (v := .int .u32 k) rfl
  have z1 := r1.lt
  have z2 := d1.lt
  have z3 := A3.lt
  have HBW : Hid (B ≤ W.heap.size) := Nat.le_trans hB (by omega)
  have HA : Hid (((W.alloc (.cells #[.int .u32 1, .int .u32 k, .bool false] 83)).drew).ownsRow B 83 3 v L.length (ent x L)) := own_kept ho fun g hg => by
    obtain ⟨⟨es, e1⟩, _⟩ := own83 ho hg
    exact Below.heap_alloc _ _ _ e1.lt
  have HNW : Hid (∀ j u, [Value.int .u32 1, .int .u32 k, .bool false][j]? = some u → ((W.alloc (.cells #[.int .u32 1, .int .u32 k, .bool false] 83)).drew).cell? ((⟨W.heap.size, 0, none⟩ : Addr).add j) = some u) := cell_three (t := 83) (RowAt.newAt (W := W) rfl)
  have HNE : Hid (v.ownBlock ≠ some q) := fun e => by
    obtain ⟨⟨es, e1⟩, _⟩ := own83 ho e
    exact e1.ne d1 (by decide) rfl
  have HNP : Hid (v.ownBlock ≠ some p) := fun e => by
    obtain ⟨⟨es, e1⟩, _⟩ := own83 ho e
    exact e1.ne r1 (by decide) rfl
  have HNX : Hid (v.ownBlock ≠ some w.heap.size) := fun e => by
    obtain ⟨⟨es, e1⟩, _⟩ := own83 ho e
    exact e1.ne A3 (by decide) rfl
  have HD1 := Lib.hid d1
  have HD3 := Lib.hid d3
  have HP1 := Lib.hid r1
  have HP3 := Lib.hid r3
  have HA1 := Lib.hid A1
  have HA2 := Lib.hid A2
  have HA4 := Lib.hid A4
  have A30 := A3
  obtain ⟨xs, hxs⟩ : ∃ xs, ent x L = xs := ⟨_, rfl⟩
  obtain ⟨len, hlen⟩ : ∃ len, L.length = len := ⟨_, rfl⟩
  have HXS := Lib.hid hxs
  have HLEN := Lib.hid hlen
  rw [hxs, hlen] at HA
  rw [hlen] at hL
  have hnp : p ≠ q := r1.ne d1 (by decide)
  have hnx : w.heap.size ≠ q := A3.ne d1 (by decide)
  have c4d : (W.alloc (.cells #[.int .u32 1, .int .u32 k, .bool false] 83)).cell? ⟨q, 3, none⟩ = some v := (d1.alloc _).cellv d3
  clear A1 A2 A3 A4 r1 r2 r3 r4 r5 d1 d2 d3 ho hxs hlen hB
  refine wp_region_held_drew (S := fun w' => w'.cell? ⟨p, 105, none⟩ = some (.pointer (some ⟨q, 0, none⟩)) ∧ w'.cell? ⟨w.heap.size, 0, none⟩ = some (.int .u32 1) ∧ w'.cell? ⟨w.heap.size, 1, none⟩ = some (.int .u32 k)) (by kernel_rfl) (by go_keep) (fun hHeld => ?_)
  refine wpAnyH_take (i := 0) (v := ?_) rfl (by kernel_rfl) (by kernel_rfl) (by kernel_rfl) (fun _ _ _ h => h) (Or.inl ⟨by rfl, ?_⟩) (by assumption) ?_
  rotate_left
  · (intro w' hSw; (try dsimp only at hSw); go_simp; with_reducible rfl)
  try simp only [List.getElem_toArray, List.getElem_cons_zero, List.getElem_cons_succ, Act.put, List.setIfInBounds_toArray, List.set_cons_zero, List.set_cons_succ]
  refine wpAnyH_take (i := 1) (v := ?_) rfl (by kernel_rfl) (by kernel_rfl) (by kernel_rfl) (fun _ _ _ h => h) (Or.inl ⟨by rfl, ?_⟩) (by assumption) ?_
  rotate_left
  · (intro w' hSw; (try dsimp only at hSw); go_simp; with_reducible rfl)
  try simp only [List.getElem_toArray, List.getElem_cons_zero, List.getElem_cons_succ, Act.put, List.setIfInBounds_toArray, List.set_cons_zero, List.set_cons_succ]
  refine wpAnyH_take (i := 2) (v := ?_) rfl (by kernel_rfl) (by kernel_rfl) (by kernel_rfl) (fun _ _ _ h => h) (Or.inl ⟨by rfl, ?_⟩) (by assumption) ?_
  rotate_left
  · (intro w' hSw; (try dsimp only at hSw); go_simp; with_reducible rfl)
  try simp only [List.getElem_toArray, List.getElem_cons_zero, List.getElem_cons_succ, Act.put, List.setIfInBounds_toArray, List.set_cons_zero, List.set_cons_succ]
  refine wpAnyH_take (i := 3) (v := ?_) rfl (by kernel_rfl) (by kernel_rfl) (by kernel_rfl) (fun _ _ _ h => h) (Or.inl ⟨by rfl, ?_⟩) (by assumption) ?_
  rotate_left
  · (intro w' hSw; (try dsimp only at hSw); go_simp; with_reducible rfl)
  try simp only [List.getElem_toArray, List.getElem_cons_zero, List.getElem_cons_succ, Act.put, List.setIfInBounds_toArray, List.set_cons_zero, List.set_cons_succ]
  refine wpAnyH_take (i := 4) (v := ?_) rfl (by kernel_rfl) (by kernel_rfl) (by kernel_rfl) (fun _ _ _ h => h) (Or.inl ⟨by rfl, ?_⟩) (by assumption) ?_
  rotate_left
  · (intro w' hSw; (try dsimp only at hSw); go_simp; with_reducible rfl)
  try simp only [List.getElem_toArray, List.getElem_cons_zero, List.getElem_cons_succ, Act.put, List.setIfInBounds_toArray, List.set_cons_zero, List.set_cons_succ]
  refine wpAnyH_take (i := 5) (v := ?_) rfl (by kernel_rfl) (by kernel_rfl) (by kernel_rfl) (fun _ _ _ h => h) (Or.inl ⟨by rfl, ?_⟩) (by assumption) ?_
  rotate_left
  · (intro w' hSw; (try dsimp only at hSw); go_simp; with_reducible rfl)
  try simp only [List.getElem_toArray, List.getElem_cons_zero, List.getElem_cons_succ, Act.put, List.setIfInBounds_toArray, List.set_cons_zero, List.set_cons_succ]
  refine wpAnyH_take (i := 6) (v := ?_) rfl (by kernel_rfl) (by kernel_rfl) (by kernel_rfl) (fun _ _ _ h => h) (Or.inl ⟨by rfl, ?_⟩) (by assumption) ?_
  rotate_left
  · (intro w' hSw; (try dsimp only at hSw); go_simp; with_reducible rfl)
  try simp only [List.getElem_toArray, List.getElem_cons_zero, List.getElem_cons_succ, Act.put, List.setIfInBounds_toArray, List.set_cons_zero, List.set_cons_succ]
  refine wpAnyH_take (i := 7) (v := ?_) rfl (by kernel_rfl) (by kernel_rfl) (by kernel_rfl) (fun _ _ _ h => h) (Or.inl ⟨by rfl, ?_⟩) (by assumption) ?_
  rotate_left
  · (intro w' hSw; (try dsimp only at hSw); go_simp; with_reducible rfl)
  try simp only [List.getElem_toArray, List.getElem_cons_zero, List.getElem_cons_succ, Act.put, List.setIfInBounds_toArray, List.set_cons_zero, List.set_cons_succ]
  refine wpAnyH_take (i := 8) (v := ?_) rfl (by kernel_rfl) (by kernel_rfl) (by kernel_rfl) (fun _ _ _ h => h) (Or.inl ⟨by rfl, ?_⟩) (by assumption) ?_
  rotate_left
  · (intro w' hSw; (try dsimp only at hSw); go_simp; with_reducible rfl)
  try simp only [List.getElem_toArray, List.getElem_cons_zero, List.getElem_cons_succ, Act.put, List.setIfInBounds_toArray, List.set_cons_zero, List.set_cons_succ]
  refine wpAnyH_take (i := 9) (v := ?_) rfl (by kernel_rfl) (by kernel_rfl) (by kernel_rfl) (fun _ _ _ h => h) (Or.inl ⟨by rfl, ?_⟩) (by assumption) ?_
  rotate_left
  · (intro w' hSw; (try dsimp only at hSw); go_simp; with_reducible rfl)
  try simp only [List.getElem_toArray, List.getElem_cons_zero, List.getElem_cons_succ, Act.put, List.setIfInBounds_toArray, List.set_cons_zero, List.set_cons_succ]
  refine wpAnyH_take (i := 11) (v := ?_) rfl (by kernel_rfl) (by kernel_rfl) (by kernel_rfl) (fun _ _ _ h => h) (Or.inl ⟨by rfl, ?_⟩) (by assumption) ?_
  rotate_left
  · (intro w' hSw; (try dsimp only at hSw); go_simp; with_reducible rfl)
  try simp only [List.getElem_toArray, List.getElem_cons_zero, List.getElem_cons_succ, Act.put, List.setIfInBounds_toArray, List.set_cons_zero, List.set_cons_succ]
  refine wpAnyH_take (i := 12) (v := ?_) rfl (by kernel_rfl) (by kernel_rfl) (by kernel_rfl) (fun _ _ _ h => h) (Or.inl ⟨by rfl, ?_⟩) (by assumption) ?_
  rotate_left
  · (intro w' hSw; (try dsimp only at hSw); go_simp; with_reducible rfl)
  try simp only [List.getElem_toArray, List.getElem_cons_zero, List.getElem_cons_succ, Act.put, List.setIfInBounds_toArray, List.set_cons_zero, List.set_cons_succ]
  refine wpAnyH_take (i := 13) (v := ?_) rfl (by kernel_rfl) (by kernel_rfl) (by kernel_rfl) (fun _ _ _ h => h) (Or.inl ⟨by rfl, ?_⟩) (by assumption) ?_
  rotate_left
  · (intro w' hSw; (try dsimp only at hSw); go_simp; with_reducible rfl)
  try simp only [List.getElem_toArray, List.getElem_cons_zero, List.getElem_cons_succ, Act.put, List.setIfInBounds_toArray, List.set_cons_zero, List.set_cons_succ]
  refine wpAnyH_ready (rs := [10, 14]) (by kernel_rfl) (by simp) ?_
  refine AllReadyH.cons rfl (fun K hK => ?_) (AllReadyH.cons rfl (fun K hK => ?_) AllReadyH.nil)
  · simp only [List.getElem_toArray, List.getElem_cons_zero, List.getElem_cons_succ]
    go_simp
    refine hK.out _ _ (by go_keep) (fun hHeld => ?_)
    clear hK K
    try simp only [List.getElem_toArray, List.getElem_cons_zero, List.getElem_cons_succ, Act.put, List.setIfInBounds_toArray, List.set_cons_zero, List.set_cons_succ]
    refine wpAnyH_ready (rs := [14]) (by kernel_rfl) (by simp) ?_
    refine AllReadyH.cons rfl (fun K hK => ?_) AllReadyH.nil
    simp only [List.getElem_toArray, List.getElem_cons_zero, List.getElem_cons_succ]
    go_simp
    refine hK.out _ _ (by go_keep) (fun hHeld => ?_)
    clear hK K
    try simp only [List.getElem_toArray, List.getElem_cons_zero, List.getElem_cons_succ, Act.put, List.setIfInBounds_toArray, List.set_cons_zero, List.set_cons_succ]
    refine wpAnyH_ready (rs := [15]) (by kernel_rfl) (by simp) ?_
    refine AllReadyH.cons rfl (fun K hK => ?_) AllReadyH.nil
    refine step_append_lies _ (by rfl) _ _ _ (by rfl) B 83 i0 _ 3 12 Try.underlying44 hi hz0 hz1 hz2 rfl (by decide) v len xs (by rfl) HA.out ⟨W.heap.size, 0, none⟩ 1 1 [.int .u32 1, .int .u32 k, .bool false] (by rfl) (by rfl) HNW.out (by simp [Value.oneCell']) (by decide) (by unfold maxLen; omega) (by omega) (by have := HBW.out; simp; omega) (W.heap.size + 1) (by simp) ?_
    intro g cap w2 hown2 hgrow hat2 hlt2
    have r2' : RowAt w2 q qc 49 := (hgrow.block q (by simp; omega) (fun e => HNE.out e.symm)).trans (HD1.out.alloc _)
    have p2' : RowAt w2 p pc 195 := (hgrow.block p (by simp; omega) (fun e => HNP.out e.symm)).trans (HP1.out.alloc _)
    have x2' : RowAt w2 w.heap.size #[.int .u32 1, .int .u32 k] 37 := (hgrow.block w.heap.size (by simp; omega) (fun e => HNX.out e.symm)).trans (A30.alloc _)
    have g2 := r2'.frozen 3
    have g3 := r2'.cellv HD3.out
    have HO2 := Lib.hid hown2
    have HGR := Lib.hid hgrow
    clear hown2 hat2 hgrow
    refine hK.out _ _ ⟨p2'.cellv HP3.out, x2'.cellv rfl, x2'.cellv rfl⟩ (fun hHeld => ?_)
    clear hK K
    try simp only [List.getElem_toArray, List.getElem_cons_zero, List.getElem_cons_succ, Act.put, List.setIfInBounds_toArray, List.set_cons_zero, List.set_cons_succ]
    refine wpAnyH_take (i := 16) (v := ?_) rfl (by kernel_rfl) (by kernel_rfl) (by kernel_rfl) (fun _ _ _ h => h) (Or.inl ⟨by rfl, ?_⟩) (by assumption) ?_
    rotate_left
    · (intro w' hSw; (try dsimp only at hSw); go_simp; with_reducible rfl)
    try simp only [List.getElem_toArray, List.getElem_cons_zero, List.getElem_cons_succ, Act.put, List.setIfInBounds_toArray, List.set_cons_zero, List.set_cons_succ]
    refine wpAnyH_take (i := 17) (v := ?_) rfl (by kernel_rfl) (by kernel_rfl) (by kernel_rfl) (fun _ _ _ h => h) (Or.inl ⟨by rfl, ?_⟩) (by assumption) ?_
    rotate_left
    · (intro w' hSw; (try dsimp only at hSw); go_simp; with_reducible rfl)
    try simp only [List.getElem_toArray, List.getElem_cons_zero, List.getElem_cons_succ, Act.put, List.setIfInBounds_toArray, List.set_cons_zero, List.set_cons_succ]
    refine wpAnyH_ready (rs := [18]) (by kernel_rfl) (by simp) ?_
    refine AllReadyH.cons rfl (fun K hK => ?_) AllReadyH.nil
    simp only [List.getElem_toArray, List.getElem_cons_zero, List.getElem_cons_succ]
    go_simp
    refine hK.out _ _ ⟨(store_far hnp _ _).trans (p2'.cellv HP3.out), (store_far hnx _ _).trans (x2'.cellv rfl), (store_far hnx _ _).trans (x2'.cellv rfl)⟩ (fun hHeld => ?_)
    clear hK K
    try simp only [List.getElem_toArray, List.getElem_cons_zero, List.getElem_cons_succ, Act.put, List.setIfInBounds_toArray, List.set_cons_zero, List.set_cons_succ]
    refine wpAnyH_done (by kernel_rfl) ?_ _
    go_wp2_with fail
    go_end0
    have hW' : Below W.heap.size W ((W.alloc (.cells #[.int .u32 1, .int .u32 k, .bool false] 83)).drew) := ((Below.refl _ _).alloc (Nat.le_refl _) _).drew
    have hown := HO2.out
    rw [← HXS.out, ← HLEN.out] at hown
    have ht : x.isTop k = false := by unfold Fx.isTop; rw [HT.out, HH.out, HM1.out, HM2.out]; rfl
    refine ⟨rfl, ⟨.slice (some ⟨g, 0, none⟩) (len + 1) cap, ?_⟩, HA2.out.step HA1.out (fun j hj => hW'.block j hj) hW'.size HGR.out _, HA4.out.step HA1.out hW' HGR.out _⟩
    rw [← HLEN.out]
    exact HA1.out.step (fun j hj => hW'.block j hj) hW'.size HGR.out ht hown
  · simp only [List.getElem_toArray, List.getElem_cons_zero, List.getElem_cons_succ]
    go_simp
    refine hK.out _ _ (by go_keep) (fun hHeld => ?_)
    clear hK K
    try simp only [List.getElem_toArray, List.getElem_cons_zero, List.getElem_cons_succ, Act.put, List.setIfInBounds_toArray, List.set_cons_zero, List.set_cons_succ]
    refine wpAnyH_ready (rs := [10]) (by kernel_rfl) (by simp) ?_
    refine AllReadyH.cons rfl (fun K hK => ?_) AllReadyH.nil
    simp only [List.getElem_toArray, List.getElem_cons_zero, List.getElem_cons_succ]
    go_simp
    refine hK.out _ _ (by go_keep) (fun hHeld => ?_)
    clear hK K
    try simp only [List.getElem_toArray, List.getElem_cons_zero, List.getElem_cons_succ, Act.put, List.setIfInBounds_toArray, List.set_cons_zero, List.set_cons_succ]
    refine wpAnyH_ready (rs := [15]) (by kernel_rfl) (by simp) ?_
    refine AllReadyH.cons rfl (fun K hK => ?_) AllReadyH.nil
    refine step_append_lies _ (by rfl) _ _ _ (by rfl) B 83 i0 _ 3 12 Try.underlying44 hi hz0 hz1 hz2 rfl (by decide) v len xs (by rfl) HA.out ⟨W.heap.size, 0, none⟩ 1 1 [.int .u32 1, .int .u32 k, .bool false] (by rfl) (by rfl) HNW.out (by simp [Value.oneCell']) (by decide) (by unfold maxLen; omega) (by omega) (by have := HBW.out; simp; omega) (W.heap.size + 1) (by simp) ?_
    intro g cap w2 hown2 hgrow hat2 hlt2
    have r2' : RowAt w2 q qc 49 := (hgrow.block q (by simp; omega) (fun e => HNE.out e.symm)).trans (HD1.out.alloc _)
    have p2' : RowAt w2 p pc 195 := (hgrow.block p (by simp; omega) (fun e => HNP.out e.symm)).trans (HP1.out.alloc _)
    have x2' : RowAt w2 w.heap.size #[.int .u32 1, .int .u32 k] 37 := (hgrow.block w.heap.size (by simp; omega) (fun e => HNX.out e.symm)).trans (A30.alloc _)
    have g2 := r2'.frozen 3
    have g3 := r2'.cellv HD3.out
    have HO2 := Lib.hid hown2
    have HGR := Lib.hid hgrow
    clear hown2 hat2 hgrow
    refine hK.out _ _ ⟨p2'.cellv HP3.out, x2'.cellv rfl, x2'.cellv rfl⟩ (fun hHeld => ?_)
    clear hK K
    try simp only [List.getElem_toArray, List.getElem_cons_zero, List.getElem_cons_succ, Act.put, List.setIfInBounds_toArray, List.set_cons_zero, List.set_cons_succ]
    refine wpAnyH_take (i := 16) (v := ?_) rfl (by kernel_rfl) (by kernel_rfl) (by kernel_rfl) (fun _ _ _ h => h) (Or.inl ⟨by rfl, ?_⟩) (by assumption) ?_
    rotate_left
    · (intro w' hSw; (try dsimp only at hSw); go_simp; with_reducible rfl)
    try simp only [List.getElem_toArray, List.getElem_cons_zero, List.getElem_cons_succ, Act.put, List.setIfInBounds_toArray, List.set_cons_zero, List.set_cons_succ]
    refine wpAnyH_take (i := 17) (v := ?_) rfl (by kernel_rfl) (by kernel_rfl) (by kernel_rfl) (fun _ _ _ h => h) (Or.inl ⟨by rfl, ?_⟩) (by assumption) ?_
    rotate_left
    · (intro w' hSw; (try dsimp only at hSw); go_simp; with_reducible rfl)
    try simp only [List.getElem_toArray, List.getElem_cons_zero, List.getElem_cons_succ, Act.put, List.setIfInBounds_toArray, List.set_cons_zero, List.set_cons_succ]
    refine wpAnyH_ready (rs := [18]) (by kernel_rfl) (by simp) ?_
    refine AllReadyH.cons rfl (fun K hK => ?_) AllReadyH.nil
    simp only [List.getElem_toArray, List.getElem_cons_zero, List.getElem_cons_succ]
    go_simp
    refine hK.out _ _ ⟨(store_far hnp _ _).trans (p2'.cellv HP3.out), (store_far hnx _ _).trans (x2'.cellv rfl), (store_far hnx _ _).trans (x2'.cellv rfl)⟩ (fun hHeld => ?_)
    clear hK K
    try simp only [List.getElem_toArray, List.getElem_cons_zero, List.getElem_cons_succ, Act.put, List.setIfInBounds_toArray, List.set_cons_zero, List.set_cons_succ]
    refine wpAnyH_done (by kernel_rfl) ?_ _
    go_wp2_with fail
    go_end0
    have hW' : Below W.heap.size W ((W.alloc (.cells #[.int .u32 1, .int .u32 k, .bool false] 83)).drew) := ((Below.refl _ _).alloc (Nat.le_refl _) _).drew
    have hown := HO2.out
    rw [← HXS.out, ← HLEN.out] at hown
    have ht : x.isTop k = false := by unfold Fx.isTop; rw [HT.out, HH.out, HM1.out, HM2.out]; rfl
    refine ⟨rfl, ⟨.slice (some ⟨g, 0, none⟩) (len + 1) cap, ?_⟩, HA2.out.step HA1.out (fun j hj => hW'.block j hj) hW'.size HGR.out _, HA4.out.step HA1.out hW' HGR.out _⟩
    rw [← HLEN.out]
    exact HA1.out.step (fun j hj => hW'.block j hj) hW'.size HGR.out ht hown
theorem rec_low_ff (p q S cur mod mm B k : Nat) (v : Value) (x : Fx) (L : List Nat) (w : World) (hs : Sc w S cur mod mm x) (hp : Pa w p q S cur mod B v x L) (htop : x.top = false) (hH : (x.kd k == 1 || x.kd k == 2) = true) (hm1 : (x.ma k == 1) = false) (hk : k < x.n) (hn : x.n ≤ 65537) (hL : L.length ≤ 65536) (hB : B ≤ w.heap.size) :
    Calls Try.prog 35 #[.pointer (some ⟨p, 0, none⟩), .agg #[.int .u32 1, .int .u32 k]] w (Recd w p q S cur mod mm B x (L ++ [k])) := by
  obtain ⟨i0, hi, hz0, hz1, hz2⟩ := info_parts info83
  obtain ⟨⟨pc, r1, r2, r3, r4, r5⟩, ⟨qc, d1, d2, d3⟩, ho⟩ := id hp
  obtain ⟨⟨sc, s1, s2⟩, ⟨mc, m1, m2⟩, hc, ⟨F, cnt, f1, f2⟩⟩ := id hs
  rw [if_neg (by rw [htop]; decide)] at hc
  obtain ⟨hne, cc, g1⟩ := hc
  have c1 := r1.cellv r2
  have c2 := r1.cellv r5
  have c3 := r1.cellv r4
  have pe : ∀ n, (binOp .eql 75 (.pointer (some ⟨cur, 0, none⟩)) (.pointer (some ⟨mod, 0, none⟩))).run Try.prog ((w.alloc (.cells #[.int .u32 1, .int .u32 k] 37)).drewN n) = .ok (.bool false) ((w.alloc (.cells #[.int .u32 1, .int .u32 k] 37)).drewN n) := fun n => eqlOther (W := (w.alloc (.cells #[.int .u32 1, .int .u32 k] 37)).drewN n) hne (g1.alloc _) (m1.alloc _)
  have z1 := r1.lt
  have z2 := s1.lt
  have y0 := s1.cellv (s2 k hk 0 _ rfl)
  have y1 := s1.cellv (s2 k hk 1 _ rfl)
  have y2 := s1.cellv (s2 k hk 2 _ rfl)
  have y3 := s1.cellv (s2 k hk 3 _ rfl)
  have y4 := s1.cellv (s2 k hk 4 _ rfl)
  have y5 := s1.cellv (s2 k hk 5 _ rfl)
  have y6 := s1.cellv (s2 k hk 6 _ rfl)
  have y7 := s1.cellv (s2 k hk 7 _ rfl)
  have y8 := s1.cellv (s2 k hk 8 _ rfl)
  have y9 := s1.cellv (s2 k hk 9 _ rfl)
  simp only [Nat.add_zero] at y0
  have k0 : (0 : Int) ≤ (k : Int) := by omega
  have k1 : (k : Int) < (x.n : Int) := by omega
  have HS := Lib.hid hs
  have HP := Lib.hid hp
  have HT := Lib.hid htop
  have HH := Lib.hid hH
  have HK := Lib.hid hk
  have HM1 := Lib.hid hm1
  have HY := Lib.hid (hoist37 _ _ hH)
  clear hs hp r1 r2 r3 r4 r5 d1 d2 d3 ho htop hH m1 m2 f1 f2 g1 s1 s2 hk
  go_enter Try.func35, Try.ntmps35
  go_wp2_with fail
  go_quiet (fail)
  go_wp2_with fail
  go_region_held3 (fun w' => w'.cell? ⟨p, 106, none⟩ = some (.slice (some ⟨S, 0, none⟩) x.n x.n) ∧ w'.cell? ⟨w.heap.size, 1, none⟩ = some (.int .u32 k) ∧ w'.cell? ⟨S, k * 10, none⟩ = some (.pointer none) ∧ w'.cell? ⟨S, k * 10 + 1, none⟩ = some (.string (x.nm k)) ∧ w'.cell? ⟨S, k * 10 + 2, none⟩ = some (.int .u32 0) ∧ w'.cell? ⟨S, k * 10 + 3, none⟩ = some (.int .u32 0) ∧ w'.cell? ⟨S, k * 10 + 4, none⟩ = some (.int .u32 0) ∧ w'.cell? ⟨S, k * 10 + 5, none⟩ = some (.int .u32 0) ∧ w'.cell? ⟨S, k * 10 + 6, none⟩ = some (.int .u32 0) ∧ w'.cell? ⟨S, k * 10 + 7, none⟩ = some (.int .u16 0) ∧ w'.cell? ⟨S, k * 10 + 8, none⟩ = some (.int .u8 (x.kd k)) ∧ w'.cell? ⟨S, k * 10 + 9, none⟩ = some (.int .u8 0)) (go_keep) (fail)
  go_wp2_with fail
  have hbw : Below w.heap.size w (((w.alloc (.cells #[.int .u32 1, .int .u32 k] 37)).drewN (nq + 1)).alloc (.cells #[.pointer none, .string (x.nm k), .int .u32 0, .int .u32 0, .int .u32 0, .int .u32 0, .int .u32 0, .int .u16 0, .int .u8 (x.kd k), .int .u8 0] 70)) := ⟨rfl, rfl, rfl, by simp; omega, fun j hj => (Below.heap_alloc _ _ _ (by simp; omega)).trans (Below.heap_alloc _ _ _ hj)⟩
  have A1 := HP.out.later hbw
  have A2 := HS.out.later hbw
  have A3 : RowAt (((w.alloc (.cells #[.int .u32 1, .int .u32 k] 37)).drewN (nq + 1)).alloc (.cells #[.pointer none, .string (x.nm k), .int .u32 0, .int .u32 0, .int .u32 0, .int .u32 0, .int .u32 0, .int .u16 0, .int .u8 (x.kd k), .int .u8 0] 70)) w.heap.size #[.int .u32 1, .int .u32 k] 37 := RowAt.alloc (RowAt.new w _ _) _
  have A5 : RowAt (((w.alloc (.cells #[.int .u32 1, .int .u32 k] 37)).drewN (nq + 1)).alloc (.cells #[.pointer none, .string (x.nm k), .int .u32 0, .int .u32 0, .int .u32 0, .int .u32 0, .int .u32 0, .int .u16 0, .int .u8 (x.kd k), .int .u8 0] 70)) (w.heap.size + 1) #[.pointer none, .string (x.nm k), .int .u32 0, .int .u32 0, .int .u32 0, .int .u32 0, .int .u32 0, .int .u16 0, .int .u8 (x.kd k), .int .u8 0] 70 := RowAt.newAt (by simp)
  have A4 : Fr (RX q B) w (((w.alloc (.cells #[.int .u32 1, .int .u32 k] 37)).drewN (nq + 1)).alloc (.cells #[.pointer none, .string (x.nm k), .int .u32 0, .int .u32 0, .int .u32 0, .int .u32 0, .int .u32 0, .int .u16 0, .int .u8 (x.kd k), .int .u8 0] 70)) := Fr.of_below hbw
  generalize hW1 : ((w.alloc (.cells #[.int .u32 1, .int .u32 k] 37)).drewN (nq + 1)).alloc (.cells #[.pointer none, .string (x.nm k), .int .u32 0, .int .u32 0, .int .u32 0, .int .u32 0, .int .u32 0, .int .u16 0, .int .u8 (x.kd k), .int .u8 0] 70) = W1 at A1 A2 A3 A4 A5 ⊢
  clear hW1 c1 c2 c3 pe z1 z2 y0 y1 y2 y3 y4 y5 y6 y7 y8 y9 k0 k1 HS HP hbw
  obtain ⟨⟨pc, r1, r2, r3, r4, r5⟩, _, _⟩ := id A1
  obtain ⟨_, ⟨mc, m1, m2⟩, _, ⟨F, cnt, f1, f2⟩⟩ := id A2
  obtain ⟨c, hc⟩ := f2 k HK.out
  have c2 := r1.cellv r5
  have cm := m1.cellv m2
  have z1 := r1.lt
  have z2 := m1.lt
  have e1 := A5.cellv (j := 1) (v := .string (x.nm k)) rfl
  have e8 := A5.cellv (j := 8) (v := .int .u8 (x.kd k)) rfl
  have e2 := A3.cellv (j := 0) (v := .int .u32 1) rfl
  have e3 := A3.cellv (j := 1) (v := .int .u32 k) rfl
  have z3 := A5.lt
  have lk : ∀ n, (Instr.lookup 198 (.map (some mm)) (.string (x.nm k)) false).run Try.prog (W1.drewN n) = .ok (.agg #[.int .u32 (x.ma k), .int .u32 (x.mb k), .int .i32 c]) (W1.drewN n) := fun n => by
    have := (f1.kept (w' := W1.drewN n) rfl).look keyS Try.underlying198 (zero225 _) (v := .string (x.nm k)) ⟨_, rfl⟩ false
    rw [lookRes_false', hc] at this
    exact this
  have HA1 := Lib.hid A1
  have HA2 := Lib.hid A2
  have HA3 := Lib.hid A3
  have HA4 := Lib.hid A4
  clear A1 A2 A3 A4 A5 r1 r2 r3 r4 r5 m1 m2 f1 f2 hc
  have hfl := field225
  go_quiet ((go_at_call 37; exact Calls.quiet_of_same (HY.out _)))
  go_wp2_with fail
  have A1 := HA1.out.later (w' := W1.drewN nq) (below_drewN' (Below.refl _ _) nq)
  have A2 := HA2.out.later (w' := W1.drewN nq) (below_drewN' (Below.refl _ _) nq)
  have A3 : RowAt (W1.drewN nq) w.heap.size #[.int .u32 1, .int .u32 k] 37 := HA3.out
  have A4 := HA4.out.trans (Fr.of_below (X := RX q B) (w' := W1.drewN nq) (below_drewN' (Below.refl _ _) nq))
  clear c2 cm z1 z2 e1 e8 e2 e3 z3 lk HA1 HA2 HA3 HA4
  generalize hW : W1.drewN nq = W at A1 A2 A3 A4 ⊢
  clear hW
  obtain ⟨⟨pc, r1, r2, r3, r4, r5⟩, ⟨qc, d1, d2, d3⟩, ho⟩ := id A1
  have c3 := r1.cellv r3
  have c4 := d1.cellv d3
  have f4 := d1.frozen 3
  have b0 := A3.cellv (j := 0) (v := .int .u32 1) rfl
  have b1 := A3.cellv (j := 1) (v := .int .u32 k) rfl
  have z1 := r1.lt
  have z2 := d1.lt
  have z3 := A3.lt
  have HBW : Hid (B ≤ W.heap.size) := Nat.le_trans hB (by omega)
  have HA : Hid (((W.alloc (.cells #[.int .u32 1, .int .u32 k, .bool false] 83)).drew).ownsRow B 83 3 v L.length (ent x L)) := own_kept ho fun g hg => by
    obtain ⟨⟨es, e1⟩, _⟩ := own83 ho hg
    exact Below.heap_alloc _ _ _ e1.lt
  have HNW : Hid (∀ j u, [Value.int .u32 1, .int .u32 k, .bool false][j]? = some u → ((W.alloc (.cells #[.int .u32 1, .int .u32 k, .bool false] 83)).drew).cell? ((⟨W.heap.size, 0, none⟩ : Addr).add j) = some u) := cell_three (t := 83) (RowAt.newAt (W := W) rfl)
  have HNE : Hid (v.ownBlock ≠ some q) := fun e => by
    obtain ⟨⟨es, e1⟩, _⟩ := own83 ho e
    exact e1.ne d1 (by decide) rfl
  have HNP : Hid (v.ownBlock ≠ some p) := fun e => by
    obtain ⟨⟨es, e1⟩, _⟩ := own83 ho e
    exact e1.ne r1 (by decide) rfl
  have HNX : Hid (v.ownBlock ≠ some w.heap.size) := fun e => by
    obtain ⟨⟨es, e1⟩, _⟩ := own83 ho e
    exact e1.ne A3 (by decide) rfl
  have HD1 := Lib.hid d1
  have HD3 := Lib.hid d3
  have HP1 := Lib.hid r1
  have HP3 := Lib.hid r3
  have HA1 := Lib.hid A1
  have HA2 := Lib.hid A2
  have HA4 := Lib.hid A4
  have A30 := A3
  obtain ⟨xs, hxs⟩ : ∃ xs, ent x L = xs := ⟨_, rfl⟩
  obtain ⟨len, hlen⟩ : ∃ len, L.length = len := ⟨_, rfl⟩
  have HXS := Lib.hid hxs
  have HLEN := Lib.hid hlen
  rw [hxs, hlen] at HA
  rw [hlen] at hL
  have hnp : p ≠ q := r1.ne d1 (by decide)
  have hnx : w.heap.size ≠ q := A3.ne d1 (by decide)
  have c4d : (W.alloc (.cells #[.int .u32 1, .int .u32 k, .bool false] 83)).cell? ⟨q, 3, none⟩ = some v := (d1.alloc _).cellv d3
  clear A1 A2 A3 A4 r1 r2 r3 r4 r5 d1 d2 d3 ho hxs hlen hB
  refine wp_region_held_drew (S := fun w' => w'.cell? ⟨p, 105, none⟩ = some (.pointer (some ⟨q, 0, none⟩)) ∧ w'.cell? ⟨w.heap.size, 0, none⟩ = some (.int .u32 1) ∧ w'.cell? ⟨w.heap.size, 1, none⟩ = some (.int .u32 k)) (by kernel_rfl) (by go_keep) (fun hHeld => ?_)
  refine wpAnyH_take (i := 0) (v := ?_) rfl (by kernel_rfl) (by kernel_rfl) (by kernel_rfl) (fun _ _ _ h => h) (Or.inl ⟨by rfl, ?_⟩) (by assumption) ?_
  rotate_left
  · (intro w' hSw; (try dsimp only at hSw); go_simp; with_reducible rfl)
  try simp only [List.getElem_toArray, List.getElem_cons_zero, List.getElem_cons_succ, Act.put, List.setIfInBounds_toArray, List.set_cons_zero, List.set_cons_succ]
  refine wpAnyH_take (i := 1) (v := ?_) rfl (by kernel_rfl) (by kernel_rfl) (by kernel_rfl) (fun _ _ _ h => h) (Or.inl ⟨by rfl, ?_⟩) (by assumption) ?_
  rotate_left
  · (intro w' hSw; (try dsimp only at hSw); go_simp; with_reducible rfl)
  try simp only [List.getElem_toArray, List.getElem_cons_zero, List.getElem_cons_succ, Act.put, List.setIfInBounds_toArray, List.set_cons_zero, List.set_cons_succ]
  refine wpAnyH_take (i := 2) (v := ?_) rfl (by kernel_rfl) (by kernel_rfl) (by kernel_rfl) (fun _ _ _ h => h) (Or.inl ⟨by rfl, ?_⟩) (by assumption) ?_
  rotate_left
  · (intro w' hSw; (try dsimp only at hSw); go_simp; with_reducible rfl)
  try simp only [List.getElem_toArray, List.getElem_cons_zero, List.getElem_cons_succ, Act.put, List.setIfInBounds_toArray, List.set_cons_zero, List.set_cons_succ]
  refine wpAnyH_take (i := 3) (v := ?_) rfl (by kernel_rfl) (by kernel_rfl) (by kernel_rfl) (fun _ _ _ h => h) (Or.inl ⟨by rfl, ?_⟩) (by assumption) ?_
  rotate_left
  · (intro w' hSw; (try dsimp only at hSw); go_simp; with_reducible rfl)
  try simp only [List.getElem_toArray, List.getElem_cons_zero, List.getElem_cons_succ, Act.put, List.setIfInBounds_toArray, List.set_cons_zero, List.set_cons_succ]
  refine wpAnyH_take (i := 4) (v := ?_) rfl (by kernel_rfl) (by kernel_rfl) (by kernel_rfl) (fun _ _ _ h => h) (Or.inl ⟨by rfl, ?_⟩) (by assumption) ?_
  rotate_left
  · (intro w' hSw; (try dsimp only at hSw); go_simp; with_reducible rfl)
  try simp only [List.getElem_toArray, List.getElem_cons_zero, List.getElem_cons_succ, Act.put, List.setIfInBounds_toArray, List.set_cons_zero, List.set_cons_succ]
  refine wpAnyH_take (i := 5) (v := ?_) rfl (by kernel_rfl) (by kernel_rfl) (by kernel_rfl) (fun _ _ _ h => h) (Or.inl ⟨by rfl, ?_⟩) (by assumption) ?_
  rotate_left
  · (intro w' hSw; (try dsimp only at hSw); go_simp; with_reducible rfl)
  try simp only [List.getElem_toArray, List.getElem_cons_zero, List.getElem_cons_succ, Act.put, List.setIfInBounds_toArray, List.set_cons_zero, List.set_cons_succ]
  refine wpAnyH_take (i := 6) (v := ?_) rfl (by kernel_rfl) (by kernel_rfl) (by kernel_rfl) (fun _ _ _ h => h) (Or.inl ⟨by rfl, ?_⟩) (by assumption) ?_
  rotate_left
  · (intro w' hSw; (try dsimp only at hSw); go_simp; with_reducible rfl)
  try simp only [List.getElem_toArray, List.getElem_cons_zero, List.getElem_cons_succ, Act.put, List.setIfInBounds_toArray, List.set_cons_zero, List.set_cons_succ]
  refine wpAnyH_take (i := 7) (v := ?_) rfl (by kernel_rfl) (by kernel_rfl) (by kernel_rfl) (fun _ _ _ h => h) (Or.inl ⟨by rfl, ?_⟩) (by assumption) ?_
  rotate_left
  · (intro w' hSw; (try dsimp only at hSw); go_simp; with_reducible rfl)
  try simp only [List.getElem_toArray, List.getElem_cons_zero, List.getElem_cons_succ, Act.put, List.setIfInBounds_toArray, List.set_cons_zero, List.set_cons_succ]
  refine wpAnyH_take (i := 8) (v := ?_) rfl (by kernel_rfl) (by kernel_rfl) (by kernel_rfl) (fun _ _ _ h => h) (Or.inl ⟨by rfl, ?_⟩) (by assumption) ?_
  rotate_left
  · (intro w' hSw; (try dsimp only at hSw); go_simp; with_reducible rfl)
  try simp only [List.getElem_toArray, List.getElem_cons_zero, List.getElem_cons_succ, Act.put, List.setIfInBounds_toArray, List.set_cons_zero, List.set_cons_succ]
  refine wpAnyH_take (i := 9) (v := ?_) rfl (by kernel_rfl) (by kernel_rfl) (by kernel_rfl) (fun _ _ _ h => h) (Or.inl ⟨by rfl, ?_⟩) (by assumption) ?_
  rotate_left
  · (intro w' hSw; (try dsimp only at hSw); go_simp; with_reducible rfl)
  try simp only [List.getElem_toArray, List.getElem_cons_zero, List.getElem_cons_succ, Act.put, List.setIfInBounds_toArray, List.set_cons_zero, List.set_cons_succ]
  refine wpAnyH_take (i := 11) (v := ?_) rfl (by kernel_rfl) (by kernel_rfl) (by kernel_rfl) (fun _ _ _ h => h) (Or.inl ⟨by rfl, ?_⟩) (by assumption) ?_
  rotate_left
  · (intro w' hSw; (try dsimp only at hSw); go_simp; with_reducible rfl)
  try simp only [List.getElem_toArray, List.getElem_cons_zero, List.getElem_cons_succ, Act.put, List.setIfInBounds_toArray, List.set_cons_zero, List.set_cons_succ]
  refine wpAnyH_take (i := 12) (v := ?_) rfl (by kernel_rfl) (by kernel_rfl) (by kernel_rfl) (fun _ _ _ h => h) (Or.inl ⟨by rfl, ?_⟩) (by assumption) ?_
  rotate_left
  · (intro w' hSw; (try dsimp only at hSw); go_simp; with_reducible rfl)
  try simp only [List.getElem_toArray, List.getElem_cons_zero, List.getElem_cons_succ, Act.put, List.setIfInBounds_toArray, List.set_cons_zero, List.set_cons_succ]
  refine wpAnyH_take (i := 13) (v := ?_) rfl (by kernel_rfl) (by kernel_rfl) (by kernel_rfl) (fun _ _ _ h => h) (Or.inl ⟨by rfl, ?_⟩) (by assumption) ?_
  rotate_left
  · (intro w' hSw; (try dsimp only at hSw); go_simp; with_reducible rfl)
  try simp only [List.getElem_toArray, List.getElem_cons_zero, List.getElem_cons_succ, Act.put, List.setIfInBounds_toArray, List.set_cons_zero, List.set_cons_succ]
  refine wpAnyH_ready (rs := [10, 14]) (by kernel_rfl) (by simp) ?_
  refine AllReadyH.cons rfl (fun K hK => ?_) (AllReadyH.cons rfl (fun K hK => ?_) AllReadyH.nil)
  · simp only [List.getElem_toArray, List.getElem_cons_zero, List.getElem_cons_succ]
    go_simp
    refine hK.out _ _ (by go_keep) (fun hHeld => ?_)
    clear hK K
    try simp only [List.getElem_toArray, List.getElem_cons_zero, List.getElem_cons_succ, Act.put, List.setIfInBounds_toArray, List.set_cons_zero, List.set_cons_succ]
    refine wpAnyH_ready (rs := [14]) (by kernel_rfl) (by simp) ?_
    refine AllReadyH.cons rfl (fun K hK => ?_) AllReadyH.nil
    simp only [List.getElem_toArray, List.getElem_cons_zero, List.getElem_cons_succ]
    go_simp
    refine hK.out _ _ (by go_keep) (fun hHeld => ?_)
    clear hK K
    try simp only [List.getElem_toArray, List.getElem_cons_zero, List.getElem_cons_succ, Act.put, List.setIfInBounds_toArray, List.set_cons_zero, List.set_cons_succ]
    refine wpAnyH_ready (rs := [15]) (by kernel_rfl) (by simp) ?_
    refine AllReadyH.cons rfl (fun K hK => ?_) AllReadyH.nil
    refine step_append_lies _ (by rfl) _ _ _ (by rfl) B 83 i0 _ 3 12 Try.underlying44 hi hz0 hz1 hz2 rfl (by decide) v len xs (by rfl) HA.out ⟨W.heap.size, 0, none⟩ 1 1 [.int .u32 1, .int .u32 k, .bool false] (by rfl) (by rfl) HNW.out (by simp [Value.oneCell']) (by decide) (by unfold maxLen; omega) (by omega) (by have := HBW.out; simp; omega) (W.heap.size + 1) (by simp) ?_
    intro g cap w2 hown2 hgrow hat2 hlt2
    have r2' : RowAt w2 q qc 49 := (hgrow.block q (by simp; omega) (fun e => HNE.out e.symm)).trans (HD1.out.alloc _)
    have p2' : RowAt w2 p pc 195 := (hgrow.block p (by simp; omega) (fun e => HNP.out e.symm)).trans (HP1.out.alloc _)
    have x2' : RowAt w2 w.heap.size #[.int .u32 1, .int .u32 k] 37 := (hgrow.block w.heap.size (by simp; omega) (fun e => HNX.out e.symm)).trans (A30.alloc _)
    have g2 := r2'.frozen 3
    have g3 := r2'.cellv HD3.out
    have HO2 := Lib.hid hown2
    have HGR := Lib.hid hgrow
    clear hown2 hat2 hgrow
    refine hK.out _ _ ⟨p2'.cellv HP3.out, x2'.cellv rfl, x2'.cellv rfl⟩ (fun hHeld => ?_)
    clear hK K
    try simp only [List.getElem_toArray, List.getElem_cons_zero, List.getElem_cons_succ, Act.put, List.setIfInBounds_toArray, List.set_cons_zero, List.set_cons_succ]
    refine wpAnyH_take (i := 16) (v := ?_) rfl (by kernel_rfl) (by kernel_rfl) (by kernel_rfl) (fun _ _ _ h => h) (Or.inl ⟨by rfl, ?_⟩) (by assumption) ?_
    rotate_left
    · (intro w' hSw; (try dsimp only at hSw); go_simp; with_reducible rfl)
    try simp only [List.getElem_toArray, List.getElem_cons_zero, List.getElem_cons_succ, Act.put, List.setIfInBounds_toArray, List.set_cons_zero, List.set_cons_succ]
    refine wpAnyH_take (i := 17) (v := ?_) rfl (by kernel_rfl) (by kernel_rfl) (by kernel_rfl) (fun _ _ _ h => h) (Or.inl ⟨by rfl, ?_⟩) (by assumption) ?_
    rotate_left
    · (intro w' hSw; (try dsimp only at hSw); go_simp; with_reducible rfl)
    try simp only [List.getElem_toArray, List.getElem_cons_zero, List.getElem_cons_succ, Act.put, List.setIfInBounds_toArray, List.set_cons_zero, List.set_cons_succ]
    refine wpAnyH_ready (rs := [18]) (by kernel_rfl) (by simp) ?_
    refine AllReadyH.cons rfl (fun K hK => ?_) AllReadyH.nil
    simp only [List.getElem_toArray, List.getElem_cons_zero, List.getElem_cons_succ]
    go_simp
    refine hK.out _ _ ⟨(store_far hnp _ _).trans (p2'.cellv HP3.out), (store_far hnx _ _).trans (x2'.cellv rfl), (store_far hnx _ _).trans (x2'.cellv rfl)⟩ (fun hHeld => ?_)
    clear hK K
    try simp only [List.getElem_toArray, List.getElem_cons_zero, List.getElem_cons_succ, Act.put, List.setIfInBounds_toArray, List.set_cons_zero, List.set_cons_succ]
    refine wpAnyH_done (by kernel_rfl) ?_ _
    go_wp2_with fail
    go_end0
    have hW' : Below W.heap.size W ((W.alloc (.cells #[.int .u32 1, .int .u32 k, .bool false] 83)).drew) := ((Below.refl _ _).alloc (Nat.le_refl _) _).drew
    have hown := HO2.out
    rw [← HXS.out, ← HLEN.out] at hown
    have ht : x.isTop k = false := by unfold Fx.isTop; rw [HT.out, HH.out, HM1.out]; rfl
    refine ⟨rfl, ⟨.slice (some ⟨g, 0, none⟩) (len + 1) cap, ?_⟩, HA2.out.step HA1.out (fun j hj => hW'.block j hj) hW'.size HGR.out _, HA4.out.step HA1.out hW' HGR.out _⟩
    rw [← HLEN.out]
    exact HA1.out.step (fun j hj => hW'.block j hj) hW'.size HGR.out ht hown
  · simp only [List.getElem_toArray, List.getElem_cons_zero, List.getElem_cons_succ]
    go_simp
    refine hK.out _ _ (by go_keep) (fun hHeld => ?_)
    clear hK K
    try simp only [List.getElem_toArray, List.getElem_cons_zero, List.getElem_cons_succ, Act.put, List.setIfInBounds_toArray, List.set_cons_zero, List.set_cons_succ]
    refine wpAnyH_ready (rs := [10]) (by kernel_rfl) (by simp) ?_
    refine AllReadyH.cons rfl (fun K hK => ?_) AllReadyH.nil
    simp only [List.getElem_toArray, List.getElem_cons_zero, List.getElem_cons_succ]
    go_simp
    refine hK.out _ _ (by go_keep) (fun hHeld => ?_)
    clear hK K
    try simp only [List.getElem_toArray, List.getElem_cons_zero, List.getElem_cons_succ, Act.put, List.setIfInBounds_toArray, List.set_cons_zero, List.set_cons_succ]
    refine wpAnyH_ready (rs := [15]) (by kernel_rfl) (by simp) ?_
    refine AllReadyH.cons rfl (fun K hK => ?_) AllReadyH.nil
    refine step_append_lies _ (by rfl) _ _ _ (by rfl) B 83 i0 _ 3 12 Try.underlying44 hi hz0 hz1 hz2 rfl (by decide) v len xs (by rfl) HA.out ⟨W.heap.size, 0, none⟩ 1 1 [.int .u32 1, .int .u32 k, .bool false] (by rfl) (by rfl) HNW.out (by simp [Value.oneCell']) (by decide) (by unfold maxLen; omega) (by omega) (by have := HBW.out; simp; omega) (W.heap.size + 1) (by simp) ?_
    intro g cap w2 hown2 hgrow hat2 hlt2
    have r2' : RowAt w2 q qc 49 := (hgrow.block q (by simp; omega) (fun e => HNE.out e.symm)).trans (HD1.out.alloc _)
    have p2' : RowAt w2 p pc 195 := (hgrow.block p (by simp; omega) (fun e => HNP.out e.symm)).trans (HP1.out.alloc _)
    have x2' : RowAt w2 w.heap.size #[.int .u32 1, .int .u32 k] 37 := (hgrow.block w.heap.size (by simp; omega) (fun e => HNX.out e.symm)).trans (A30.alloc _)
    have g2 := r2'.frozen 3
    have g3 := r2'.cellv HD3.out
    have HO2 := Lib.hid hown2
    have HGR := Lib.hid hgrow
    clear hown2 hat2 hgrow
    refine hK.out _ _ ⟨p2'.cellv HP3.out, x2'.cellv rfl, x2'.cellv rfl⟩ (fun hHeld => ?_)
    clear hK K
    try simp only [List.getElem_toArray, List.getElem_cons_zero, List.getElem_cons_succ, Act.put, List.setIfInBounds_toArray, List.set_cons_zero, List.set_cons_succ]
    refine wpAnyH_take (i := 16) (v := ?_) rfl (by kernel_rfl) (by kernel_rfl) (by kernel_rfl) (fun _ _ _ h => h) (Or.inl ⟨by rfl, ?_⟩) (by assumption) ?_
    rotate_left
    · (intro w' hSw; (try dsimp only at hSw); go_simp; with_reducible rfl)
    try simp only [List.getElem_toArray, List.getElem_cons_zero, List.getElem_cons_succ, Act.put, List.setIfInBounds_toArray, List.set_cons_zero, List.set_cons_succ]
    refine wpAnyH_take (i := 17) (v := ?_) rfl (by kernel_rfl) (by kernel_rfl) (by kernel_rfl) (fun _ _ _ h => h) (Or.inl ⟨by rfl, ?_⟩) (by assumption) ?_
    rotate_left
    · (intro w' hSw; (try dsimp only at hSw); go_simp; with_reducible rfl)
    try simp only [List.getElem_toArray, List.getElem_cons_zero, List.getElem_cons_succ, Act.put, List.setIfInBounds_toArray, List.set_cons_zero, List.set_cons_succ]
    refine wpAnyH_ready (rs := [18]) (by kernel_rfl) (by simp) ?_
    refine AllReadyH.cons rfl (fun K hK => ?_) AllReadyH.nil
    simp only [List.getElem_toArray, List.getElem_cons_zero, List.getElem_cons_succ]
    go_simp
    refine hK.out _ _ ⟨(store_far hnp _ _).trans (p2'.cellv HP3.out), (store_far hnx _ _).trans (x2'.cellv rfl), (store_far hnx _ _).trans (x2'.cellv rfl)⟩ (fun hHeld => ?_)
    clear hK K
    try simp only [List.getElem_toArray, List.getElem_cons_zero, List.getElem_cons_succ, Act.put, List.setIfInBounds_toArray, List.set_cons_zero, List.set_cons_succ]
    refine wpAnyH_done (by kernel_rfl) ?_ _
    go_wp2_with fail
    go_end0
    have hW' : Below W.heap.size W ((W.alloc (.cells #[.int .u32 1, .int .u32 k, .bool false] 83)).drew) := ((Below.refl _ _).alloc (Nat.le_refl _) _).drew
    have hown := HO2.out
    rw [← HXS.out, ← HLEN.out] at hown
    have ht : x.isTop k = false := by unfold Fx.isTop; rw [HT.out, HH.out, HM1.out]; rfl
    refine ⟨rfl, ⟨.slice (some ⟨g, 0, none⟩) (len + 1) cap, ?_⟩, HA2.out.step HA1.out (fun j hj => hW'.block j hj) hW'.size HGR.out _, HA4.out.step HA1.out hW' HGR.out _⟩
    rw [← HLEN.out]
    exact HA1.out.step (fun j hj => hW'.block j hj) hW'.size HGR.out ht hown

end Go.Proofs.Ytailfkedgdlldaa
