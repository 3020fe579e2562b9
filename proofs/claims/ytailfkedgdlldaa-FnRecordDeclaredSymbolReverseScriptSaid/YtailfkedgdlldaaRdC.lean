import Derived.Test.YtailfkedgdlldaaKit
import Derived.Test.YtailfkedgdlldaaRdB
namespace Go.Proofs.Ytailfkedgdlldaa
open Go.ChangeShapes Go.WideShapes Go.ChangeAt Go.RowKit
set_option linter.unusedVariables false
set_option maxRecDepth 100000
set_option maxHeartbeats 2000000

theorem store_far {u : World} {a q i : Nat} (hn : a ≠ q) (j : Nat) (y : Value) : (u.setCell ⟨q, j, none⟩ y).cell? ⟨a, i, none⟩ = u.cell? ⟨a, i, none⟩ := World.cell?_setCell_other _ _ _ _ (fun e => hn (by injection e with e; exact e.symm))

theorem rec_top (p q S cur mod mm B k : Nat) (v : Value) (x : Fx) (L : List Nat) (w : World) (hs : Sc w S cur mod mm x) (hp : Pa w p q S cur mod B v x L) (htop : x.top = true) (hk : k < x.n) (hn : x.n ≤ 65537) (hL : L.length ≤ 65536) (hB : B ≤ w.heap.size) :
    Calls Try.prog 35 #[.pointer (some ⟨p, 0, none⟩), .agg #[.int .u32 1, .int .u32 k]] w (Recd w p q S cur mod mm B x (L ++ [k])) := by
  obtain ⟨i0, hi, hz0, hz1, hz2⟩ := info_parts info83
  obtain ⟨⟨pc, r1, r2, r3, r4, r5⟩, ⟨qc, d1, d2, d3⟩, ho⟩ := id hp
  obtain ⟨_, _, hc, _⟩ := id hs
  rw [if_pos htop] at hc
  subst hc
  have c1 := r1.cellv r2
  have c2 := r1.cellv r5
  have pe := eqlSame
  have z1 := r1.lt
  have HS := Lib.hid hs
  have HP := Lib.hid hp
  have HT := Lib.hid htop
  clear hs hp r1 r2 r3 r4 r5 d1 d2 d3 ho htop
  go_enter Try.func35, Try.ntmps35
  go_wp2_with fail
  go_quiet (fail)
  go_wp2_with fail
  have hbw : Below w.heap.size w ((w.alloc (.cells #[.int .u32 1, .int .u32 k] 37)).drewN nq) := ⟨rfl, rfl, rfl, by simp, fun j hj => Below.heap_alloc _ _ _ hj⟩
  have A1 := HP.out.later hbw
  have A2 := HS.out.later hbw
  have A3 : RowAt ((w.alloc (.cells #[.int .u32 1, .int .u32 k] 37)).drewN nq) w.heap.size #[.int .u32 1, .int .u32 k] 37 := RowAt.new w _ _
  have A4 : Fr (RX q B) w ((w.alloc (.cells #[.int .u32 1, .int .u32 k] 37)).drewN nq) := Fr.of_below hbw
  clear c1 c2 pe z1 HS HP hbw
  generalize hW : (w.alloc (.cells #[.int .u32 1, .int .u32 k] 37)).drewN nq = W at A1 A2 A3 A4 ⊢
  clear hW
  obtain ⟨⟨pc, r1, r2, r3, r4, r5⟩, ⟨qc, d1, d2, d3⟩, ho⟩ := id A1
  have c3 := r1.cellv r3
  have c4 := d1.cellv d3
  have f4 := d1.frozen 3
  have b0 := A3.cellv (j := 0) (v := .int .u32 1) rfl
  have b1 := A3.cellv (j := 1) (v := .int .u32 k) rfl
  have z1 := r1.lt
  have z2 := d1.lt
  have z3 := A3.lt
  have HBW : Hid (B ≤ W.heap.size) := Nat.le_trans hB (by omega)
  have HA : Hid (((W.alloc (.cells #[.int .u32 1, .int .u32 k, .bool true] 83)).drew).ownsRow B 83 3 v L.length (ent x L)) := own_kept ho fun g hg => by
    obtain ⟨⟨es, e1⟩, _⟩ := own83 ho hg
    exact Below.heap_alloc _ _ _ e1.lt
  have HNW : Hid (∀ j u, [Value.int .u32 1, .int .u32 k, .bool true][j]? = some u → ((W.alloc (.cells #[.int .u32 1, .int .u32 k, .bool true] 83)).drew).cell? ((⟨W.heap.size, 0, none⟩ : Addr).add j) = some u) := cell_three (t := 83) (RowAt.newAt (W := W) rfl)
  have HNE : Hid (v.ownBlock ≠ some q) := fun e => by
    obtain ⟨⟨es, e1⟩, _⟩ := own83 ho e
    exact e1.ne d1 (by decide) rfl
  have HNP : Hid (v.ownBlock ≠ some p) := fun e => by
    obtain ⟨⟨es, e1⟩, _⟩ := own83 ho e
    exact e1.ne r1 (by decide) rfl
  have HNX : Hid (v.ownBlock ≠ some w.heap.size) := fun e => by
    obtain ⟨⟨es, e1⟩, _⟩ := own83 ho e
    exact e1.ne A3 (by decide) rfl
  have HD1 := Lib.hid d1
  have HD3 := Lib.hid d3
  have HP1 := Lib.hid r1
  have HP3 := Lib.hid r3
  have HA1 := Lib.hid A1
  have HA2 := Lib.hid A2
  have HA4 := Lib.hid A4
  have A30 := A3
  obtain ⟨xs, hxs⟩ : ∃ xs, ent x L = xs := ⟨_, rfl⟩
  obtain ⟨len, hlen⟩ : ∃ len, L.length = len := ⟨_, rfl⟩
  have HXS := Lib.hid hxs
  have HLEN := Lib.hid hlen
  rw [hxs, hlen] at HA
  rw [hlen] at hL
  have hnp : p ≠ q := r1.ne d1 (by decide)
  have hnx : w.heap.size ≠ q := A3.ne d1 (by decide)
  have c4d : (W.alloc (.cells #[.int .u32 1, .int .u32 k, .bool true] 83)).cell? ⟨q, 3, none⟩ = some v := (d1.alloc _).cellv d3
  clear A1 A2 A3 A4 r1 r2 r3 r4 r5 d1 d2 d3 ho hxs hlen hB
  refine wp_region_held_drew (S := fun w' => w'.cell? ⟨p, 105, none⟩ = some (.pointer (some ⟨q, 0, none⟩)) ∧ w'.cell? ⟨w.heap.size, 0, none⟩ = some (.int .u32 1) ∧ w'.cell? ⟨w.heap.size, 1, none⟩ = some (.int .u32 k)) (by kernel_rfl) (by go_keep) (fun hHeld => ?_)
  refine wpAnyH_take (i := 0) (v := ?_) rfl (by kernel_rfl) (by kernel_rfl) (by kernel_rfl) (fun _ _ _ h => h) (Or.inl ⟨by rfl, ?_⟩) (by assumption) ?_
  rotate_left
  · (intro w' hSw; (try dsimp only at hSw); go_simp; with_reducible rfl)
  try simp only [List.getElem_toArray, List.getElem_cons_zero, List.getElem_cons_succ, Act.put, List.setIfInBounds_toArray, List.set_cons_zero, List.set_cons_succ]
  refine wpAnyH_take (i := 1) (v := ?_) rfl (by kernel_rfl) (by kernel_rfl) (by kernel_rfl) (fun _ _ _ h => h) (Or.inl ⟨by rfl, ?_⟩) (by assumption) ?_
  rotate_left
  · (intro w' hSw; (try dsimp only at hSw); go_simp; with_reducible rfl)
  try simp only [List.getElem_toArray, List.getElem_cons_zero, List.getElem_cons_succ, Act.put, List.setIfInBounds_toArray, List.set_cons_zero, List.set_cons_succ]
  refine wpAnyH_take (i := 2) (v := ?_) rfl (by kernel_rfl) (by kernel_rfl) (by kernel_rfl) (fun _ _ _ h => h) (Or.inl ⟨by rfl, ?_⟩) (by assumption) ?_
  rotate_left
  · (intro w' hSw; (try dsimp only at hSw); go_simp; with_reducible rfl)
  try simp only [List.getElem_toArray, List.getElem_cons_zero, List.getElem_cons_succ, Act.put, List.setIfInBounds_toArray, List.set_cons_zero, List.set_cons_succ]
  refine wpAnyH_take (i := 3) (v := ?_) rfl (by kernel_rfl) (by kernel_rfl) (by kernel_rfl) (fun _ _ _ h => h) (Or.inl ⟨by rfl, ?_⟩) (by assumption) ?_
  rotate_left
  · (intro w' hSw; (try dsimp only at hSw); go_simp; with_reducible rfl)
  try simp only [List.getElem_toArray, List.getElem_cons_zero, List.getElem_cons_succ, Act.put, List.setIfInBounds_toArray, List.set_cons_zero, List.set_cons_succ]
  refine wpAnyH_take (i := 4) (v := ?_) rfl (by kernel_rfl) (by kernel_rfl) (by kernel_rfl) (fun _ _ _ h => h) (Or.inl ⟨by rfl, ?_⟩) (by assumption) ?_
  rotate_left
  · (intro w' hSw; (try dsimp only at hSw); go_simp; with_reducible rfl)
  try simp only [List.getElem_toArray, List.getElem_cons_zero, List.getElem_cons_succ, Act.put, List.setIfInBounds_toArray, List.set_cons_zero, List.set_cons_succ]
  refine wpAnyH_take (i := 5) (v := ?_) rfl (by kernel_rfl) (by kernel_rfl) (by kernel_rfl) (fun _ _ _ h => h) (Or.inl ⟨by rfl, ?_⟩) (by assumption) ?_
  rotate_left
  · (intro w' hSw; (try dsimp only at hSw); go_simp; with_reducible rfl)
  try simp only [List.getElem_toArray, List.getElem_cons_zero, List.getElem_cons_succ, Act.put, List.setIfInBounds_toArray, List.set_cons_zero, List.set_cons_succ]
  refine wpAnyH_take (i := 6) (v := ?_) rfl (by kernel_rfl) (by kernel_rfl) (by kernel_rfl) (fun _ _ _ h => h) (Or.inl ⟨by rfl, ?_⟩) (by assumption) ?_
  rotate_left
  · (intro w' hSw; (try dsimp only at hSw); go_simp; with_reducible rfl)
  try simp only [List.getElem_toArray, List.getElem_cons_zero, List.getElem_cons_succ, Act.put, List.setIfInBounds_toArray, List.set_cons_zero, List.set_cons_succ]
  refine wpAnyH_take (i := 7) (v := ?_) rfl (by kernel_rfl) (by kernel_rfl) (by kernel_rfl) (fun _ _ _ h => h) (Or.inl ⟨by rfl, ?_⟩) (by assumption) ?_
  rotate_left
  · (intro w' hSw; (try dsimp only at hSw); go_simp; with_reducible rfl)
  try simp only [List.getElem_toArray, List.getElem_cons_zero, List.getElem_cons_succ, Act.put, List.setIfInBounds_toArray, List.set_cons_zero, List.set_cons_succ]
  refine wpAnyH_take (i := 8) (v := ?_) rfl (by kernel_rfl) (by kernel_rfl) (by kernel_rfl) (fun _ _ _ h => h) (Or.inl ⟨by rfl, ?_⟩) (by assumption) ?_
  rotate_left
  · (intro w' hSw; (try dsimp only at hSw); go_simp; with_reducible rfl)
  try simp only [List.getElem_toArray, List.getElem_cons_zero, List.getElem_cons_succ, Act.put, List.setIfInBounds_toArray, List.set_cons_zero, List.set_cons_succ]
  refine wpAnyH_take (i := 9) (v := ?_) rfl (by kernel_rfl) (by kernel_rfl) (by kernel_rfl) (fun _ _ _ h => h) (Or.inl ⟨by rfl, ?_⟩) (by assumption) ?_
  rotate_left
  · (intro w' hSw; (try dsimp only at hSw); go_simp; with_reducible rfl)
  try simp only [List.getElem_toArray, List.getElem_cons_zero, List.getElem_cons_succ, Act.put, List.setIfInBounds_toArray, List.set_cons_zero, List.set_cons_succ]
  refine wpAnyH_take (i := 11) (v := ?_) rfl (by kernel_rfl) (by kernel_rfl) (by kernel_rfl) (fun _ _ _ h => h) (Or.inl ⟨by rfl, ?_⟩) (by assumption) ?_
  rotate_left
  · (intro w' hSw; (try dsimp only at hSw); go_simp; with_reducible rfl)
  try simp only [List.getElem_toArray, List.getElem_cons_zero, List.getElem_cons_succ, Act.put, List.setIfInBounds_toArray, List.set_cons_zero, List.set_cons_succ]
  refine wpAnyH_take (i := 12) (v := ?_) rfl (by kernel_rfl) (by kernel_rfl) (by kernel_rfl) (fun _ _ _ h => h) (Or.inl ⟨by rfl, ?_⟩) (by assumption) ?_
  rotate_left
  · (intro w' hSw; (try dsimp only at hSw); go_simp; with_reducible rfl)
  try simp only [List.getElem_toArray, List.getElem_cons_zero, List.getElem_cons_succ, Act.put, List.setIfInBounds_toArray, List.set_cons_zero, List.set_cons_succ]
  refine wpAnyH_take (i := 13) (v := ?_) rfl (by kernel_rfl) (by kernel_rfl) (by kernel_rfl) (fun _ _ _ h => h) (Or.inl ⟨by rfl, ?_⟩) (by assumption) ?_
  rotate_left
  · (intro w' hSw; (try dsimp only at hSw); go_simp; with_reducible rfl)
  try simp only [List.getElem_toArray, List.getElem_cons_zero, List.getElem_cons_succ, Act.put, List.setIfInBounds_toArray, List.set_cons_zero, List.set_cons_succ]
  refine wpAnyH_ready (rs := [10, 14]) (by kernel_rfl) (by simp) ?_
  refine AllReadyH.cons rfl (fun K hK => ?_) (AllReadyH.cons rfl (fun K hK => ?_) AllReadyH.nil)
  · simp only [List.getElem_toArray, List.getElem_cons_zero, List.getElem_cons_succ]
    go_simp
    refine hK.out _ _ (by go_keep) (fun hHeld => ?_)
    clear hK K
    try simp only [List.getElem_toArray, List.getElem_cons_zero, List.getElem_cons_succ, Act.put, List.setIfInBounds_toArray, List.set_cons_zero, List.set_cons_succ]
    refine wpAnyH_ready (rs := [14]) (by kernel_rfl) (by simp) ?_
    refine AllReadyH.cons rfl (fun K hK => ?_) AllReadyH.nil
    simp only [List.getElem_toArray, List.getElem_cons_zero, List.getElem_cons_succ]
    go_simp
    refine hK.out _ _ (by go_keep) (fun hHeld => ?_)
    clear hK K
    try simp only [List.getElem_toArray, List.getElem_cons_zero, List.getElem_cons_succ, Act.put, List.setIfInBounds_toArray, List.set_cons_zero, List.set_cons_succ]
    refine wpAnyH_ready (rs := [15]) (by kernel_rfl) (by simp) ?_
    refine AllReadyH.cons rfl (fun K hK => ?_) AllReadyH.nil
    refine step_append_lies _ (by rfl) _ _ _ (by rfl) B 83 i0 _ 3 12 Try.underlying44 hi hz0 hz1 hz2 rfl (by decide) v len xs (by rfl) HA.out ⟨W.heap.size, 0, none⟩ 1 1 [.int .u32 1, .int .u32 k, .bool true] (by rfl) (by rfl) HNW.out (by simp [Value.oneCell']) (by decide) (by unfold maxLen; omega) (by omega) (by have := HBW.out; simp; omega) (W.heap.size + 1) (by simp) ?_
    intro g cap w2 hown2 hgrow hat2 hlt2
    have r2' : RowAt w2 q qc 49 := (hgrow.block q (by simp; omega) (fun e => HNE.out e.symm)).trans (HD1.out.alloc _)
    have p2' : RowAt w2 p pc 195 := (hgrow.block p (by simp; omega) (fun e => HNP.out e.symm)).trans (HP1.out.alloc _)
    have x2' : RowAt w2 w.heap.size #[.int .u32 1, .int .u32 k] 37 := (hgrow.block w.heap.size (by simp; omega) (fun e => HNX.out e.symm)).trans (A30.alloc _)
    have g2 := r2'.frozen 3
    have g3 := r2'.cellv HD3.out
    have HO2 := Lib.hid hown2
    have HGR := Lib.hid hgrow
    clear hown2 hat2 hgrow
    refine hK.out _ _ ⟨p2'.cellv HP3.out, x2'.cellv rfl, x2'.cellv rfl⟩ (fun hHeld => ?_)
    clear hK K
    try simp only [List.getElem_toArray, List.getElem_cons_zero, List.getElem_cons_succ, Act.put, List.setIfInBounds_toArray, List.set_cons_zero, List.set_cons_succ]
    refine wpAnyH_take (i := 16) (v := ?_) rfl (by kernel_rfl) (by kernel_rfl) (by kernel_rfl) (fun _ _ _ h => h) (Or.inl ⟨by rfl, ?_⟩) (by assumption) ?_
    rotate_left
    · (intro w' hSw; (try dsimp only at hSw); go_simp; with_reducible rfl)
    try simp only [List.getElem_toArray, List.getElem_cons_zero, List.getElem_cons_succ, Act.put, List.setIfInBounds_toArray, List.set_cons_zero, List.set_cons_succ]
    refine wpAnyH_take (i := 17) (v := ?_) rfl (by kernel_rfl) (by kernel_rfl) (by kernel_rfl) (fun _ _ _ h => h) (Or.inl ⟨by rfl, ?_⟩) (by assumption) ?_
    rotate_left
    · (intro w' hSw; (try dsimp only at hSw); go_simp; with_reducible rfl)
    try simp only [List.getElem_toArray, List.getElem_cons_zero, List.getElem_cons_succ, Act.put, List.setIfInBounds_toArray, List.set_cons_zero, List.set_cons_succ]
    refine wpAnyH_ready (rs := [18]) (by kernel_rfl) (by simp) ?_
    refine AllReadyH.cons rfl (fun K hK => ?_) AllReadyH.nil
    simp only [List.getElem_toArray, List.getElem_cons_zero, List.getElem_cons_succ]
    go_simp
    refine hK.out _ _ ⟨(store_far hnp _ _).trans (p2'.cellv HP3.out), (store_far hnx _ _).trans (x2'.cellv rfl), (store_far hnx _ _).trans (x2'.cellv rfl)⟩ (fun hHeld => ?_)
    clear hK K
    try simp only [List.getElem_toArray, List.getElem_cons_zero, List.getElem_cons_succ, Act.put, List.setIfInBounds_toArray, List.set_cons_zero, List.set_cons_succ]
    refine wpAnyH_done (by kernel_rfl) ?_ _
    go_wp2_with fail
    go_end0
    have hW' : Below W.heap.size W ((W.alloc (.cells #[.int .u32 1, .int .u32 k, .bool true] 83)).drew) := ((Below.refl _ _).alloc (Nat.le_refl _) _).drew
    have hown := HO2.out
    rw [← HXS.out, ← HLEN.out] at hown
    have ht : x.isTop k = true := by unfold Fx.isTop; rw [HT.out]; rfl
    refine ⟨rfl, ⟨.slice (some ⟨g, 0, none⟩) (len + 1) cap, ?_⟩, HA2.out.step HA1.out (fun j hj => hW'.block j hj) hW'.size HGR.out _, HA4.out.step HA1.out hW' HGR.out _⟩
    rw [← HLEN.out]
    exact HA1.out.step (fun j hj => hW'.block j hj) hW'.size HGR.out ht hown
  · simp only [List.getElem_toArray, List.getElem_cons_zero, List.getElem_cons_succ]
    go_simp
    refine hK.out _ _ (by go_keep) (fun hHeld => ?_)
    clear hK K
    try simp only [List.getElem_toArray, List.getElem_cons_zero, List.getElem_cons_succ, Act.put, List.setIfInBounds_toArray, List.set_cons_zero, List.set_cons_succ]
    refine wpAnyH_ready (rs := [10]) (by kernel_rfl) (by simp) ?_
    refine AllReadyH.cons rfl (fun K hK => ?_) AllReadyH.nil
    simp only [List.getElem_toArray, List.getElem_cons_zero, List.getElem_cons_succ]
    go_simp
    refine hK.out _ _ (by go_keep) (fun hHeld => ?_)
    clear hK K
    try simp only [List.getElem_toArray, List.getElem_cons_zero, List.getElem_cons_succ, Act.put, List.setIfInBounds_toArray, List.set_cons_zero, List.set_cons_succ]
    refine wpAnyH_ready (rs := [15]) (by kernel_rfl) (by simp) ?_
    refine AllReadyH.cons rfl (fun K hK => ?_) AllReadyH.nil
    refine step_append_lies _ (by rfl) _ _ _ (by rfl) B 83 i0 _ 3 12 Try.underlying44 hi hz0 hz1 hz2 rfl (by decide) v len xs (by rfl) HA.out ⟨W.heap.size, 0, none⟩ 1 1 [.int .u32 1, .int .u32 k, .bool true] (by rfl) (by rfl) HNW.out (by simp [Value.oneCell']) (by decide) (by unfold maxLen; omega) (by omega) (by have := HBW.out; simp; omega) (W.heap.size + 1) (by simp) ?_
    intro g cap w2 hown2 hgrow hat2 hlt2
    have r2' : RowAt w2 q qc 49 := (hgrow.block q (by simp; omega) (fun e => HNE.out e.symm)).trans (HD1.out.alloc _)
    have p2' : RowAt w2 p pc 195 := (hgrow.block p (by simp; omega) (fun e => HNP.out e.symm)).trans (HP1.out.alloc _)
    have x2' : RowAt w2 w.heap.size #[.int .u32 1, .int .u32 k] 37 := (hgrow.block w.heap.size (by simp; omega) (fun e => HNX.out e.symm)).trans (A30.alloc _)
    have g2 := r2'.frozen 3
    have g3 := r2'.cellv HD3.out
    have HO2 := Lib.hid hown2
    have HGR := Lib.hid hgrow
    clear hown2 hat2 hgrow
    refine hK.out _ _ ⟨p2'.cellv HP3.out, x2'.cellv rfl, x2'.cellv rfl⟩ (fun hHeld => ?_)
    clear hK K
    try simp only [List.getElem_toArray, List.getElem_cons_zero, List.getElem_cons_succ, Act.put, List.setIfInBounds_toArray, List.set_cons_zero, List.set_cons_succ]
    refine wpAnyH_take (i := 16) (v := ?_) rfl (by kernel_rfl) (by kernel_rfl) (by kernel_rfl) (fun _ _ _ h => h) (Or.inl ⟨by rfl, ?_⟩) (by assumption) ?_
    rotate_left
    · (intro w' hSw; (try dsimp only at hSw); go_simp; with_reducible rfl)
    try simp only [List.getElem_toArray, List.getElem_cons_zero, List.getElem_cons_succ, Act.put, List.setIfInBounds_toArray, List.set_cons_zero, List.set_cons_succ]
    refine wpAnyH_take (i := 17) (v := ?_) rfl (by kernel_rfl) (by kernel_rfl) (by kernel_rfl) (fun _ _ _ h => h) (Or.inl ⟨by rfl, ?_⟩) (by assumption) ?_
    rotate_left
    · (intro w' hSw; (try dsimp only at hSw); go_simp; with_reducible rfl)
    try simp only [List.getElem_toArray, List.getElem_cons_zero, List.getElem_cons_succ, Act.put, List.setIfInBounds_toArray, List.set_cons_zero, List.set_cons_succ]
    refine wpAnyH_ready (rs := [18]) (by kernel_rfl) (by simp) ?_
    refine AllReadyH.cons rfl (fun K hK => ?_) AllReadyH.nil
    simp only [List.getElem_toArray, List.getElem_cons_zero, List.getElem_cons_succ]
    go_simp
    refine hK.out _ _ ⟨(store_far hnp _ _).trans (p2'.cellv HP3.out), (store_far hnx _ _).trans (x2'.cellv rfl), (store_far hnx _ _).trans (x2'.cellv rfl)⟩ (fun hHeld => ?_)
    clear hK K
    try simp only [List.getElem_toArray, List.getElem_cons_zero, List.getElem_cons_succ, Act.put, List.setIfInBounds_toArray, List.set_cons_zero, List.set_cons_succ]
    refine wpAnyH_done (by kernel_rfl) ?_ _
    go_wp2_with fail
    go_end0
    have hW' : Below W.heap.size W ((W.alloc (.cells #[.int .u32 1, .int .u32 k, .bool true] 83)).drew) := ((Below.refl _ _).alloc (Nat.le_refl _) _).drew
    have hown := HO2.out
    rw [← HXS.out, ← HLEN.out] at hown
    have ht : x.isTop k = true := by unfold Fx.isTop; rw [HT.out]; rfl
    refine ⟨rfl, ⟨.slice (some ⟨g, 0, none⟩) (len + 1) cap, ?_⟩, HA2.out.step HA1.out (fun j hj => hW'.block j hj) hW'.size HGR.out _, HA4.out.step HA1.out hW' HGR.out _⟩
    rw [← HLEN.out]
    exact HA1.out.step (fun j hj => hW'.block j hj) hW'.size HGR.out ht hown

end Go.Proofs.Ytailfkedgdlldaa
