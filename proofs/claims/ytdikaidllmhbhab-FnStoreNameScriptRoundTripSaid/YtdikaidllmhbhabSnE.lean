import Derived.Test.YtdikaidllmhbhabKit
import Derived.Test.YtdikaidllmhbhabSnD
namespace Go.Proofs.Ytdikaidllmhbhab.fnStoreNameScriptRoundTrip
open Go.ChangeShapes Go.WideShapes Go.ChangeAt Go.RowKit
set_option linter.unusedVariables false
set_option maxRecDepth 100000
set_option maxHeartbeats 2000000

theorem store_far {u : World} {a q i : Nat} (hn : a ≠ q) (j : Nat) (y : Value) : (u.setCell ⟨q, j, none⟩ y).cell? ⟨a, i, none⟩ = u.cell? ⟨a, i, none⟩ := World.cell?_setCell_other _ _ _ _ (fun e => hn (by injection e with e; exact e.symm))
theorem heap_set {w : World} {p k j : Nat} {v : Value} (h : j ≠ p) : (w.setCell ⟨p, k, none⟩ v).heap[j]? = w.heap[j]? := Below.heap_setCell _ _ _ _ h
theorem cell_list {W : World} {g : Nat} {l : List Value} {t : TypeId} (h : RowAt W g l.toArray t) : ∀ j u, l[j]? = some u → W.cell? ((⟨g, 0, none⟩ : Addr).add j) = some u := by
  intro j u hu
  rw [addr0]
  exact h.cellv (by simpa using hu)
theorem own_kept {w w' : World} {B n : Nat} {e : TypeId} {size : Nat} {v : Value} {xs : List Value} (h : w.ownsRow B e size v n xs) (hk : ∀ g, v.ownBlock = some g → w'.heap[g]? = w.heap[g]?) : w'.ownsRow B e size v n xs := by
  obtain ⟨h1, h2⟩ := h
  refine ⟨h1, ?_⟩
  rcases h2 with h2 | ⟨g, cap, cur, hv, hb, hh, h3⟩
  · exact .inl h2
  · exact .inr ⟨g, cap, cur, hv, hb, (hk g (by rw [hv]; rfl)).trans hh, h3⟩
theorem own_row {w : World} {B n g size : Nat} {e : TypeId} {v : Value} {xs : List Value} (h : w.ownsRow B e size v n xs) (hg : v.ownBlock = some g) : (∃ cs, RowAt w g cs e) ∧ B ≤ g := by
  rcases h.2 with ⟨rfl, _⟩ | ⟨g', cap, cur, rfl, hb, hh, _⟩
  · cases hg
  · have : g' = g := by simpa [Value.ownBlock] using hg
    subst this
    exact ⟨⟨cur, hh⟩, hb⟩
theorem own_slice {w : World} {B n size : Nat} {e : TypeId} {v : Value} {xs : List Value} (h : w.ownsRow B e size v n xs) : ∃ x cap, v = .slice x n cap := by
  rcases h.2 with ⟨hv, hx⟩ | ⟨g, cap, cur, hv, _⟩
  · exact ⟨none, 0, by rw [hv, hx]⟩
  · exact ⟨_, cap, hv⟩
theorem row_ne {w : World} {a b : Nat} {cs ds : Array Value} {s t : TypeId} (h : RowAt w a cs s) (g : RowAt w b ds t) (hn : s ≠ t) : a ≠ b := by
  intro e
  subst e
  unfold RowAt at h g
  rw [h] at g
  injection g with g
  injection g with _ g
  exact hn g

/-- Nothing below B has turned but block p. -/
structure Frp (B p : Nat) (w w' : World) : Prop where
  os : w'.os = w.os
  tape : w'.tape = w.tape
  output : w'.output = w.output
  size : w.heap.size ≤ w'.heap.size
  block : ∀ j, j < B → j ≠ p → w'.heap[j]? = w.heap[j]?
theorem Frp.of_below {B p : Nat} {w w' : World} (h : Below w.heap.size w w') (hB : B ≤ w.heap.size) : Frp B p w w' := ⟨h.os, h.tape, h.output, h.size, fun j hj _ => h.block j (by omega)⟩
theorem Frp.trans {B p : Nat} {w w' w'' : World} (h : Frp B p w w') (g : Frp B p w' w'') : Frp B p w w'' :=
  ⟨g.os.trans h.os, g.tape.trans h.tape, g.output.trans h.output, Nat.le_trans h.size g.size, fun j hj hp => (g.block j hj hp).trans (h.block j hj hp)⟩
/-- What the parser holds: the contents, and the names that are stashed away. -/
def PN (w : World) (B p : Nat) (ct : ByteArray) (L : List ByteArray) : Prop := ∃ cs V, RowAt w p cs 163 ∧ cs[60]? = some (.string ct) ∧ cs[103]? = some V ∧ w.ownsRow B 9 1 V L.length (L.map Value.string)
theorem PN.below {w w' : World} {B p : Nat} {ct : ByteArray} {L : List ByteArray} (h : PN w B p ct L) (hb : Below w.heap.size w w') : PN w' B p ct L := by
  obtain ⟨cs, V, h1, h2, h3, h4⟩ := h
  refine ⟨cs, V, h1.below hb h1.lt, h2, h3, own_kept h4 fun g hg => ?_⟩
  obtain ⟨⟨es, e1⟩, _⟩ := own_row h4 hg
  exact hb.block g e1.lt
theorem info9 : (Try.prog.info? 9).map (fun i => (i.zero, i.size, i.bytes)) = some (some (.string ⟨#[]⟩), 1, 16) := by kernel_rfl

/-- Rows of other types stay. -/
def Kept9 (W w2 : World) : Prop := ∀ b es t, RowAt W b es t → t ≠ 9 → RowAt w2 b es t
/-- Rows of other types than the names' and the parser's stay. -/
def KpN (w w' : World) : Prop := ∀ b es t, RowAt w b es t → t ≠ 9 → t ≠ 163 → RowAt w' b es t
def SF (nm : ByteArray) (s : Nat) (w : World) (e : Ending) (w' : World) : Prop := e = .returned (.agg #[.int .u32 (4294967296 - (nm.size : Int)), .int .u32 s]) ∧ Below w.heap.size w w'
def SA (B p : Nat) (ct nm : ByteArray) (L : List ByteArray) (w : World) (e : Ending) (w' : World) : Prop := e = .returned (.agg #[.int .u32 2147483648, .int .u32 L.length]) ∧ PN w' B p ct (L ++ [nm]) ∧ Frp B p w w' ∧ KpN w w'
set_option maxHeartbeats 4000000 in
theorem store14F (pv : Value) (nm : ByteArray) (s : Nat) (w : World) (h1 : 1 ≤ nm.size) (h2 : nm.size ≤ 1048576) (hs : s ≤ 1048576) :
    Calls Try.prog 14 #[pv, .agg #[.string nm, .int .u32 (4294967295 - (s : Int))]] w (SF nm s w) := by
  have hneg : (-(nm.size : Int)) % 4294967296 = 4294967296 - (nm.size : Int) := by omega
  have hne : (4294967295 - (s : Int) != 0) = true := by simp; omega
  go_enter Try.func14, Try.ntmps14
  go_wp2_with fail
  refine (valid24 (4294967295 - (s : Int)) _).mono ?_
  rintro e w1 ⟨rfl, hb1⟩
  have hbw : Below w.heap.size w w1 := Below.trans (((Below.refl _ _).alloc (Nat.le_refl _) _).alloc (by simp) _) (hb1.mono (by simp; omega))
  have R3 : RowAt w1 w.heap.size #[.string nm, .int .u32 (4294967295 - (s : Int))] 150 := RowAt.below ((RowAt.new w _ _).alloc _) hb1 (by simp; omega)
  have R4 : RowAt w1 (w.heap.size + 1) #[.int .u32 0, .int .u32 0] 35 := RowAt.below (show RowAt ((w.alloc (.cells #[.string nm, .int .u32 (4294967295 - (s : Int))] 150)).alloc (.cells #[.int .u32 0, .int .u32 0] 35)) (w.heap.size + 1) #[.int .u32 0, .int .u32 0] 35 from by simpa using RowAt.new (w.alloc (.cells #[.string nm, .int .u32 (4294967295 - (s : Int))] 150)) #[.int .u32 0, .int .u32 0] 35) hb1 (by simp)
  have a0 := R3.cellv (j := 0) (v := .string nm) rfl
  have a1 := R3.cellv (j := 1) (v := .int .u32 (4294967295 - (s : Int))) rfl
  have b0 := R4.cellv (j := 0) (v := .int .u32 0) rfl
  have b1 := R4.cellv (j := 1) (v := .int .u32 0) rfl
  have fb := R4.frozen
  have y3 := R3.lt
  have y4 := R4.lt
  have HR3 := Lib.hid R3
  have HR4 := Lib.hid R4
  have HBW := Lib.hid hbw
  clear hb1 R3 R4 hbw
  go_wp2_with fail
  refine wp_region_held_drew (S := fun w' => w'.cell? ⟨w.heap.size, 0, none⟩ = some (.string nm) ∧ w'.cell? ⟨w.heap.size, 1, none⟩ = some (.int .u32 (4294967295 - (s : Int)))) (by kernel_rfl) (by go_keep) (fun hHeld => ?_)
  refine wpAnyH_take (i := 0) (v := ?_) rfl (by kernel_rfl) (by kernel_rfl) (by kernel_rfl) (fun _ _ _ h => h) (Or.inl ⟨by rfl, ?_⟩) (by assumption) ?_
  rotate_left
  · (intro w' hSw; (try dsimp only at hSw); go_simp; with_reducible rfl)
  try simp only [List.getElem_toArray, List.getElem_cons_zero, List.getElem_cons_succ, Act.put, List.setIfInBounds_toArray, List.set_cons_zero, List.set_cons_succ]
  refine wpAnyH_take (i := 1) (v := ?_) rfl (by kernel_rfl) (by kernel_rfl) (by kernel_rfl) (fun _ _ _ h => h) (Or.inl ⟨by rfl, ?_⟩) (by assumption) ?_
  rotate_left
  · (intro w' hSw; (try dsimp only at hSw); go_simp; with_reducible rfl)
  try simp only [List.getElem_toArray, List.getElem_cons_zero, List.getElem_cons_succ, Act.put, List.setIfInBounds_toArray, List.set_cons_zero, List.set_cons_succ]
  refine wpAnyH_take (i := 2) (v := ?_) rfl (by kernel_rfl) (by kernel_rfl) (by kernel_rfl) (fun _ _ _ h => h) (Or.inl ⟨by rfl, ?_⟩) (by assumption) ?_
  rotate_left
  · (intro w' hSw; (try dsimp only at hSw); go_simp; with_reducible rfl)
  try simp only [List.getElem_toArray, List.getElem_cons_zero, List.getElem_cons_succ, Act.put, List.setIfInBounds_toArray, List.set_cons_zero, List.set_cons_succ]
  refine wpAnyH_take (i := 3) (v := ?_) rfl (by kernel_rfl) (by kernel_rfl) (by kernel_rfl) (fun _ _ _ h => h) (Or.inl ⟨by rfl, ?_⟩) (by assumption) ?_
  rotate_left
  · (intro w' hSw; (try dsimp only at hSw); go_simp; with_reducible rfl)
  try simp only [List.getElem_toArray, List.getElem_cons_zero, List.getElem_cons_succ, Act.put, List.setIfInBounds_toArray, List.set_cons_zero, List.set_cons_succ]
  refine wpAnyH_take (i := 4) (v := ?_) rfl (by kernel_rfl) (by kernel_rfl) (by kernel_rfl) (fun _ _ _ h => h) (Or.inl ⟨by rfl, ?_⟩) (by assumption) ?_
  rotate_left
  · (intro w' hSw; (try dsimp only at hSw); go_simp; with_reducible rfl)
  try simp only [List.getElem_toArray, List.getElem_cons_zero, List.getElem_cons_succ, Act.put, List.setIfInBounds_toArray, List.set_cons_zero, List.set_cons_succ]
  refine wpAnyH_take (i := 5) (v := ?_) rfl (by kernel_rfl) (by kernel_rfl) (by kernel_rfl) (fun _ _ _ h => h) (Or.inl ⟨by rfl, ?_⟩) (by assumption) ?_
  rotate_left
  · (intro w' hSw; (try dsimp only at hSw); go_simp; with_reducible rfl)
  try simp only [List.getElem_toArray, List.getElem_cons_zero, List.getElem_cons_succ, Act.put, List.setIfInBounds_toArray, List.set_cons_zero, List.set_cons_succ]
  refine wpAnyH_take (i := 6) (v := ?_) rfl (by kernel_rfl) (by kernel_rfl) (by kernel_rfl) (fun _ _ _ h => h) (Or.inl ⟨by rfl, ?_⟩) (by assumption) ?_
  rotate_left
  · (intro w' hSw; (try dsimp only at hSw); go_simp; with_reducible rfl)
  try simp only [List.getElem_toArray, List.getElem_cons_zero, List.getElem_cons_succ, Act.put, List.setIfInBounds_toArray, List.set_cons_zero, List.set_cons_succ]
  refine wpAnyH_ready (rs := [7]) (by kernel_rfl) (by simp) ?_
  refine AllReadyH.cons rfl (fun K hK => ?_) AllReadyH.nil
  simp only [List.getElem_toArray, List.getElem_cons_zero, List.getElem_cons_succ]
  go_simp
  refine (get25 s hs _).mono ?_
  rintro e w2 ⟨rfl, hb2⟩
  have R32 : RowAt w2 w.heap.size #[.string nm, .int .u32 (4294967295 - (s : Int))] 150 := RowAt.below (w := w1.drew) HR3.out hb2 HR3.out.lt
  have R42 : RowAt w2 (w.heap.size + 1) #[.int .u32 0, .int .u32 0] 35 := RowAt.below (w := w1.drew) HR4.out hb2 HR4.out.lt
  have d0 := R42.cellv (j := 0) (v := .int .u32 0) rfl
  have d1 := R42.cellv (j := 1) (v := .int .u32 0) rfl
  have fd := R42.frozen
  have HR32 := Lib.hid R32
  have HR42 := Lib.hid R42
  have HB2 := Lib.hid hb2
  clear hb2 R32 R42
  refine hK.out _ _ ⟨HR32.out.cellv rfl, HR32.out.cellv rfl⟩ (fun hHeld => ?_)
  clear hK K
  try simp only [List.getElem_toArray, List.getElem_cons_zero, List.getElem_cons_succ, Act.put, List.setIfInBounds_toArray, List.set_cons_zero, List.set_cons_succ]
  refine wpAnyH_take (i := 8) (v := ?_) rfl (by kernel_rfl) (by kernel_rfl) (by kernel_rfl) (fun _ _ _ h => h) (Or.inl ⟨by rfl, ?_⟩) (by assumption) ?_
  rotate_left
  · (intro w' hSw; (try dsimp only at hSw); go_simp; with_reducible rfl)
  try simp only [List.getElem_toArray, List.getElem_cons_zero, List.getElem_cons_succ, Act.put, List.setIfInBounds_toArray, List.set_cons_zero, List.set_cons_succ]
  refine wpAnyH_ready (rs := [9]) (by kernel_rfl) (by simp) ?_
  refine AllReadyH.cons rfl (fun K hK => ?_) AllReadyH.nil
  simp only [List.getElem_toArray, List.getElem_cons_zero, List.getElem_cons_succ]
  go_simp
  have hne4 : w.heap.size ≠ w.heap.size + 1 := by omega
  refine hK.out _ _ ⟨(store_far hne4 _ _).trans ((store_far hne4 _ _).trans (HR32.out.cellv rfl)), (store_far hne4 _ _).trans ((store_far hne4 _ _).trans (HR32.out.cellv rfl))⟩ (fun hHeld => ?_)
  clear hK K
  try simp only [List.getElem_toArray, List.getElem_cons_zero, List.getElem_cons_succ, Act.put, List.setIfInBounds_toArray, List.set_cons_zero, List.set_cons_succ]
  refine wpAnyH_done (by kernel_rfl) ?_ _
  go_wp2_with fail
  have hw : IntKind.u32.wrap (-IntKind.u32.wrap (nm.size : Int)) = 4294967296 - (nm.size : Int) := by
    simp only [IntKind.wrap, IntKind.bits, IntKind.signed]
    simp
    omega
  rw [hw]
  have q0 := ((HR42.out.set 0 (.int .u32 (4294967296 - (nm.size : Int)))).set 1 (.int .u32 s)).cellv (j := 0) (v := .int .u32 (4294967296 - (nm.size : Int))) rfl
  have q1 := ((HR42.out.set 0 (.int .u32 (4294967296 - (nm.size : Int)))).set 1 (.int .u32 s)).cellv (j := 1) (v := .int .u32 s) rfl
  have hbz : Below w.heap.size w w2 := HBW.out.trans ((Below.trans (Below.refl _ _).drew HB2.out).mono HBW.out.size)
  exact bodyPost_ret (v := .agg #[.int .u32 (4294967296 - (nm.size : Int)), .int .u32 s]) (by simp [results, Try.results14, go_sem, q0, q1]) rfl ⟨rfl, (hbz.setCell (Nat.le_succ _) _).setCell (Nat.le_succ _) _⟩

set_option maxHeartbeats 8000000 in
theorem store14A (B p : Nat) (ct nm : ByteArray) (L : List ByteArray) (w : World) (hB : B ≤ w.heap.size) (hL : L.length ≤ 1048576) (h : PN w B p ct L) :
    Calls Try.prog 14 #[.pointer (some ⟨p, 0, none⟩), .agg #[.string nm, .int .u32 0]] w (SA B p ct nm L w) := by
  obtain ⟨i0, hi, hz0, hz1, hz2⟩ := info_parts info9
  have HH := Lib.hid h
  clear h
  go_enter Try.func14, Try.ntmps14
  go_wp2_with fail
  refine (valid24 0 _).mono ?_
  rintro e w1 ⟨rfl, hb1⟩
  have hbw : Below w.heap.size w w1 := Below.trans (((Below.refl _ _).alloc (Nat.le_refl _) _).alloc (by simp) _) (hb1.mono (by simp; omega))
  have R3 : RowAt w1 w.heap.size #[.string nm, .int .u32 0] 150 := RowAt.below ((RowAt.new w _ _).alloc _) hb1 (by simp; omega)
  have R4 : RowAt w1 (w.heap.size + 1) #[.int .u32 0, .int .u32 0] 35 := RowAt.below (show RowAt ((w.alloc (.cells #[.string nm, .int .u32 0] 150)).alloc (.cells #[.int .u32 0, .int .u32 0] 35)) (w.heap.size + 1) #[.int .u32 0, .int .u32 0] 35 from by simpa using RowAt.new (w.alloc (.cells #[.string nm, .int .u32 0] 150)) #[.int .u32 0, .int .u32 0] 35) hb1 (by simp)
  obtain ⟨cs, V, rp, c60, c103', ho⟩ := HH.out.below hbw
  obtain ⟨x, cap, rfl⟩ := own_slice ho
  obtain ⟨m, hLm⟩ : ∃ m, L.length = m := ⟨_, rfl⟩
  rw [hLm] at ho c103' hL
  have hwm : IntKind.u32.wrap (m : Int) = m := by
    simp only [IntKind.wrap, IntKind.bits, IntKind.signed]
    simp
    omega
  have k103 := rp.cellv c103'
  have zp := rp.lt
  have HC60 := Lib.hid c60
  have HC103 := Lib.hid c103'
  have HO1 := Lib.hid ho
  have HP1 := Lib.hid rp
  have HR31 := Lib.hid R3
  have HR41 := Lib.hid R4
  have HB1 := Lib.hid hbw
  clear hb1 R3 R4 hbw rp c60 c103' ho HH
  go_wp2_with fail
  have hbW : Below w1.heap.size w1 (w1.alloc (.cells #[.int .u32 2147483648, .int .u32 m] 35)) := (Below.refl _ _).alloc (Nat.le_refl _) _
  have R5 : RowAt (w1.alloc (.cells #[.int .u32 2147483648, .int .u32 m] 35)) w1.heap.size #[.int .u32 2147483648, .int .u32 m] 35 := RowAt.new _ _ _
  try rw [hwm]
  generalize hW : w1.alloc (.cells #[.int .u32 2147483648, .int .u32 m] 35) = W at hbW R5 ⊢
  clear hW k103 zp
  have rp := HP1.out.below hbW HP1.out.lt
  have R3 := HR31.out.below hbW HR31.out.lt
  have R4 := HR41.out.below hbW HR41.out.lt
  have ho := own_kept (w' := W) HO1.out fun g hg => by
    obtain ⟨⟨es, e1⟩, _⟩ := own_row HO1.out hg
    exact hbW.block g e1.lt
  have c103 := rp.cellv HC103.out
  have f103 := rp.frozen 103
  have a0 := R3.cellv (j := 0) (v := .string nm) rfl
  have zp := rp.lt
  have y3 := R3.lt
  have y4 := R4.lt
  have y5 := R5.lt
  have HBB : Hid (Below w.heap.size w W) := HB1.out.trans (hbW.mono HB1.out.size)
  have HBW : Hid (B ≤ W.heap.size) := Nat.le_trans hB HBB.out.size
  have HA : Hid (((W.alloc (.cells #[.string nm] 9)).drew).ownsRow B 9 1 (.slice x m cap) m (L.map Value.string)) := own_kept ho fun g hg => by
    obtain ⟨⟨es, e1⟩, _⟩ := own_row ho hg
    exact Below.heap_alloc _ _ _ e1.lt
  have HNW : Hid (∀ j u, ([.string nm] : List Value)[j]? = some u → ((W.alloc (.cells #[.string nm] 9)).drew).cell? ((⟨W.heap.size, 0, none⟩ : Addr).add j) = some u) := cell_list (t := 9) (RowAt.new W _ _)
  have HPR := Lib.hid rp
  have HR3 := Lib.hid R3
  have HR4 := Lib.hid R4
  have HR5 := Lib.hid R5
  have HOW := Lib.hid ho
  have hnx : w.heap.size ≠ p := row_ne R3 rp (by decide)
  have c103d : (W.alloc (.cells #[.string nm] 9)).cell? ⟨p, 103, none⟩ = some (.slice x m cap) := (rp.alloc _).cellv HC103.out
  clear rp R3 R4 R5 ho hbW HO1 HP1 HR31 HR41 HB1
  refine wp_region_held_drew (S := fun w' => w'.cell? ⟨w.heap.size, 0, none⟩ = some (.string nm)) (by kernel_rfl) (by go_keep) (fun hHeld => ?_)
  refine wpAnyH_take (i := 0) (v := ?_) rfl (by kernel_rfl) (by kernel_rfl) (by kernel_rfl) (fun _ _ _ h => h) (Or.inl ⟨by rfl, ?_⟩) (by assumption) ?_
  rotate_left
  · (intro w' hSw; (try dsimp only at hSw); go_simp; with_reducible rfl)
  try simp only [List.getElem_toArray, List.getElem_cons_zero, List.getElem_cons_succ, Act.put, List.setIfInBounds_toArray, List.set_cons_zero, List.set_cons_succ]
  refine wpAnyH_take (i := 1) (v := ?_) rfl (by kernel_rfl) (by kernel_rfl) (by kernel_rfl) (fun _ _ _ h => h) (Or.inl ⟨by rfl, ?_⟩) (by assumption) ?_
  rotate_left
  · (intro w' hSw; (try dsimp only at hSw); go_simp; with_reducible rfl)
  try simp only [List.getElem_toArray, List.getElem_cons_zero, List.getElem_cons_succ, Act.put, List.setIfInBounds_toArray, List.set_cons_zero, List.set_cons_succ]
  refine wpAnyH_take (i := 2) (v := ?_) rfl (by kernel_rfl) (by kernel_rfl) (by kernel_rfl) (fun _ _ _ h => h) (Or.inl ⟨by rfl, ?_⟩) (by assumption) ?_
  rotate_left
  · (intro w' hSw; (try dsimp only at hSw); go_simp; with_reducible rfl)
  try simp only [List.getElem_toArray, List.getElem_cons_zero, List.getElem_cons_succ, Act.put, List.setIfInBounds_toArray, List.set_cons_zero, List.set_cons_succ]
  refine wpAnyH_take (i := 3) (v := ?_) rfl (by kernel_rfl) (by kernel_rfl) (by kernel_rfl) (fun _ _ _ h => h) (Or.inl ⟨by rfl, ?_⟩) (by assumption) ?_
  rotate_left
  · (intro w' hSw; (try dsimp only at hSw); go_simp; with_reducible rfl)
  try simp only [List.getElem_toArray, List.getElem_cons_zero, List.getElem_cons_succ, Act.put, List.setIfInBounds_toArray, List.set_cons_zero, List.set_cons_succ]
  refine wpAnyH_take (i := 5) (v := ?_) rfl (by kernel_rfl) (by kernel_rfl) (by kernel_rfl) (fun _ _ _ h => h) (Or.inl ⟨by rfl, ?_⟩) (by assumption) ?_
  rotate_left
  · (intro w' hSw; (try dsimp only at hSw); go_simp; with_reducible rfl)
  try simp only [List.getElem_toArray, List.getElem_cons_zero, List.getElem_cons_succ, Act.put, List.setIfInBounds_toArray, List.set_cons_zero, List.set_cons_succ]
  refine wpAnyH_take (i := 6) (v := ?_) rfl (by kernel_rfl) (by kernel_rfl) (by kernel_rfl) (fun _ _ _ h => h) (Or.inl ⟨by rfl, ?_⟩) (by assumption) ?_
  rotate_left
  · (intro w' hSw; (try dsimp only at hSw); go_simp; with_reducible rfl)
  try simp only [List.getElem_toArray, List.getElem_cons_zero, List.getElem_cons_succ, Act.put, List.setIfInBounds_toArray, List.set_cons_zero, List.set_cons_succ]
  refine wpAnyH_ready (rs := [4, 7]) (by kernel_rfl) (by simp) ?_
  refine AllReadyH.cons rfl (fun K hK => ?_) (AllReadyH.cons rfl (fun K hK => ?_) AllReadyH.nil)
  · simp only [List.getElem_toArray, List.getElem_cons_zero, List.getElem_cons_succ]
    go_simp
    refine hK.out _ _ (by go_keep) (fun hHeld => ?_)
    clear hK K
    try simp only [List.getElem_toArray, List.getElem_cons_zero, List.getElem_cons_succ, Act.put, List.setIfInBounds_toArray, List.set_cons_zero, List.set_cons_succ]
    refine wpAnyH_ready (rs := [7]) (by kernel_rfl) (by simp) ?_
    refine AllReadyH.cons rfl (fun K hK => ?_) AllReadyH.nil
    simp only [List.getElem_toArray, List.getElem_cons_zero, List.getElem_cons_succ]
    go_simp
    refine hK.out _ _ (by go_keep) (fun hHeld => ?_)
    clear hK K
    try simp only [List.getElem_toArray, List.getElem_cons_zero, List.getElem_cons_succ, Act.put, List.setIfInBounds_toArray, List.set_cons_zero, List.set_cons_succ]
    refine wpAnyH_ready (rs := [8]) (by kernel_rfl) (by simp) ?_
    refine AllReadyH.cons rfl (fun K hK => ?_) AllReadyH.nil
    refine step_append_lies _ (by rfl) _ _ _ (by rfl) B 9 i0 _ 1 16 Try.underlying22 hi hz0 hz1 hz2 rfl (by decide) (.slice x m cap) m (L.map Value.string) (by rfl) HA.out ⟨W.heap.size, 0, none⟩ 1 1 [.string nm] (by rfl) (by rfl) HNW.out (by simp [Value.oneCell']) (by decide) (by unfold maxLen; omega) (by omega) (by have := HBW.out; simp; omega) (W.heap.size + 1) (by simp) ?_
    intro g cap2 w2 hown2 hgrow hat2 hlt2
    have kp : Kept9 W w2 := fun b es t hr ht => by
      refine ((hgrow.block b (by have := hr.lt; simp; omega) fun e => ?_).trans (Below.heap_alloc _ _ _ hr.lt)).trans hr
      obtain ⟨⟨es', h'⟩, _⟩ := own_row HOW.out e.symm
      exact row_ne hr h' ht rfl
    have KP := Lib.hid kp
    have p2' := kp _ _ _ HPR.out (by decide)
    have r3' := kp _ _ _ HR3.out (by decide)
    have g2 := p2'.frozen 103
    have g3 := p2'.cellv HC103.out
    have HO2 := Lib.hid hown2
    have HGR := Lib.hid hgrow
    clear hown2 hat2 hgrow kp
    refine hK.out _ _ (r3'.cellv rfl) (fun hHeld => ?_)
    clear hK K
    try simp only [List.getElem_toArray, List.getElem_cons_zero, List.getElem_cons_succ, Act.put, List.setIfInBounds_toArray, List.set_cons_zero, List.set_cons_succ]
    refine wpAnyH_take (i := 9) (v := ?_) rfl (by kernel_rfl) (by kernel_rfl) (by kernel_rfl) (fun _ _ _ h => h) (Or.inl ⟨by rfl, ?_⟩) (by assumption) ?_
    rotate_left
    · (intro w' hSw; (try dsimp only at hSw); go_simp; with_reducible rfl)
    try simp only [List.getElem_toArray, List.getElem_cons_zero, List.getElem_cons_succ, Act.put, List.setIfInBounds_toArray, List.set_cons_zero, List.set_cons_succ]
    refine wpAnyH_take (i := 10) (v := ?_) rfl (by kernel_rfl) (by kernel_rfl) (by kernel_rfl) (fun _ _ _ h => h) (Or.inl ⟨by rfl, ?_⟩) (by assumption) ?_
    rotate_left
    · (intro w' hSw; (try dsimp only at hSw); go_simp; with_reducible rfl)
    try simp only [List.getElem_toArray, List.getElem_cons_zero, List.getElem_cons_succ, Act.put, List.setIfInBounds_toArray, List.set_cons_zero, List.set_cons_succ]
    refine wpAnyH_ready (rs := [11]) (by kernel_rfl) (by simp) ?_
    refine AllReadyH.cons rfl (fun K hK => ?_) AllReadyH.nil
    simp only [List.getElem_toArray, List.getElem_cons_zero, List.getElem_cons_succ]
    go_simp
    refine hK.out _ _ ((store_far hnx _ _).trans (r3'.cellv rfl)) (fun hHeld => ?_)
    clear hK K
    try simp only [List.getElem_toArray, List.getElem_cons_zero, List.getElem_cons_succ, Act.put, List.setIfInBounds_toArray, List.set_cons_zero, List.set_cons_succ]
    refine wpAnyH_done (by kernel_rfl) ?_ _
    have hpn : PN (w2.setCell ⟨p, 103, none⟩ (.slice (some ⟨g, 0, none⟩) (m + 1) cap2)) B p ct (L ++ [nm]) := by
      have ho := HO2.out
      refine ⟨_, _, p2'.set 103 _, by rw [Array.getElem?_setIfInBounds, if_neg (by decide)]; exact HC60.out, by rw [Array.getElem?_setIfInBounds, if_pos rfl, if_pos (Array.getElem?_eq_some_iff.1 HC103.out).1], ?_⟩
      rw [List.length_append, List.map_append, hLm]
      refine own_kept ho fun b hb => ?_
      obtain ⟨⟨es, h1⟩, _⟩ := own_row ho hb
      exact heap_set (row_ne h1 p2' (by decide))
    have hfr : Frp B p W (w2.setCell ⟨p, 103, none⟩ (.slice (some ⟨g, 0, none⟩) (m + 1) cap2)) := by
      refine ⟨HGR.out.os, HGR.out.tape, HGR.out.output, ?_, fun j hj hp => ?_⟩
      · have := HGR.out.size
        simp at this ⊢
        omega
      · rw [heap_set hp]
        refine (HGR.out.block j (by have := HBW.out; simp; omega) fun e => ?_).trans (Below.heap_alloc _ _ _ (by have := HBW.out; omega))
        have := (own_row HOW.out e.symm).2
        omega
    have R4w := (KP.out _ _ _ HR4.out (by decide)).set_other (row_ne HR4.out HPR.out (by decide)) 103 (.slice (some ⟨g, 0, none⟩) (m + 1) cap2)
    have R5w := (KP.out _ _ _ HR5.out (by decide)).set_other (row_ne HR5.out HPR.out (by decide)) 103 (.slice (some ⟨g, 0, none⟩) (m + 1) cap2)
    have hkp : KpN w (w2.setCell ⟨p, 103, none⟩ (.slice (some ⟨g, 0, none⟩) (m + 1) cap2)) := fun b es t hr h9 h163 => by
      have h1 := KP.out _ _ _ (hr.below HBB.out hr.lt) h9
      exact h1.set_other (row_ne h1 p2' h163) _ _
    have HKP := Lib.hid hkp
    have HPN := Lib.hid hpn
    have HFR := Lib.hid hfr
    have HR4w := Lib.hid R4w
    have u0 := R5w.cellv (j := 0) (v := .int .u32 2147483648) rfl
    have u1 := R5w.cellv (j := 1) (v := .int .u32 m) rfl
    have v0 := R4w.cellv (j := 0) (v := .int .u32 0) rfl
    have v1 := R4w.cellv (j := 1) (v := .int .u32 0) rfl
    have fv := R4w.frozen
    have yv := R4w.lt
    have yu := R5w.lt
    generalize hZ : w2.setCell ⟨p, 103, none⟩ (.slice (some ⟨g, 0, none⟩) (m + 1) cap2) = Z at HPN HFR HKP HR4w u0 u1 v0 v1 fv yv yu hHeld ⊢
    clear hZ hHeld hpn hfr hkp R4w R5w p2' r3' g2 g3 KP HA HNW HOW HO2 HGR HPR HR3 HR4 HR5 c103 f103 c103d a0
    go_wp2_with fail
    have q0 := ((HR4w.out.set 0 (.int .u32 2147483648)).set 1 (.int .u32 m)).cellv (j := 0) (v := .int .u32 2147483648) rfl
    have q1 := ((HR4w.out.set 0 (.int .u32 2147483648)).set 1 (.int .u32 m)).cellv (j := 1) (v := .int .u32 m) rfl
    refine bodyPost_ret (v := .agg #[.int .u32 2147483648, .int .u32 m]) (by simp [results, Try.results14, go_sem, q0, q1]) rfl ?_
    have hB4 : B ≤ w.heap.size + 1 := Nat.le_succ_of_le hB
    refine ⟨by rw [hLm], ?_, ?_, fun b es t hr h9 h163 => ?_⟩
    · obtain ⟨cs', V', k1, k2, k3, k4⟩ := HPN.out
      refine ⟨cs', V', (k1.set_other (row_ne k1 HR4w.out (by decide)) _ _).set_other (row_ne k1 HR4w.out (by decide)) _ _, k2, k3, own_kept k4 fun b hb => ?_⟩
      obtain ⟨⟨es, h1⟩, _⟩ := own_row k4 hb
      have hne := row_ne h1 HR4w.out (by decide)
      rw [heap_set hne, heap_set hne]
    · have f0 : Frp B p w W := Frp.of_below HBB.out hB
      have f1 := f0.trans HFR.out
      exact ⟨f1.os, f1.tape, f1.output, by simpa using f1.size, fun j hj hp => by
        have hne : j ≠ w.heap.size + 1 := by omega
        rw [heap_set hne, heap_set hne]
        exact f1.block j hj hp⟩
    · have hne : b ≠ w.heap.size + 1 := by have := hr.lt; omega
      exact ((HKP.out b es t hr h9 h163).set_other hne _ _).set_other hne _ _
  · simp only [List.getElem_toArray, List.getElem_cons_zero, List.getElem_cons_succ]
    go_simp
    refine hK.out _ _ (by go_keep) (fun hHeld => ?_)
    clear hK K
    try simp only [List.getElem_toArray, List.getElem_cons_zero, List.getElem_cons_succ, Act.put, List.setIfInBounds_toArray, List.set_cons_zero, List.set_cons_succ]
    refine wpAnyH_ready (rs := [4]) (by kernel_rfl) (by simp) ?_
    refine AllReadyH.cons rfl (fun K hK => ?_) AllReadyH.nil
    simp only [List.getElem_toArray, List.getElem_cons_zero, List.getElem_cons_succ]
    go_simp
    refine hK.out _ _ (by go_keep) (fun hHeld => ?_)
    clear hK K
    try simp only [List.getElem_toArray, List.getElem_cons_zero, List.getElem_cons_succ, Act.put, List.setIfInBounds_toArray, List.set_cons_zero, List.set_cons_succ]
    refine wpAnyH_ready (rs := [8]) (by kernel_rfl) (by simp) ?_
    refine AllReadyH.cons rfl (fun K hK => ?_) AllReadyH.nil
    refine step_append_lies _ (by rfl) _ _ _ (by rfl) B 9 i0 _ 1 16 Try.underlying22 hi hz0 hz1 hz2 rfl (by decide) (.slice x m cap) m (L.map Value.string) (by rfl) HA.out ⟨W.heap.size, 0, none⟩ 1 1 [.string nm] (by rfl) (by rfl) HNW.out (by simp [Value.oneCell']) (by decide) (by unfold maxLen; omega) (by omega) (by have := HBW.out; simp; omega) (W.heap.size + 1) (by simp) ?_
    intro g cap2 w2 hown2 hgrow hat2 hlt2
    have kp : Kept9 W w2 := fun b es t hr ht => by
      refine ((hgrow.block b (by have := hr.lt; simp; omega) fun e => ?_).trans (Below.heap_alloc _ _ _ hr.lt)).trans hr
      obtain ⟨⟨es', h'⟩, _⟩ := own_row HOW.out e.symm
      exact row_ne hr h' ht rfl
    have KP := Lib.hid kp
    have p2' := kp _ _ _ HPR.out (by decide)
    have r3' := kp _ _ _ HR3.out (by decide)
    have g2 := p2'.frozen 103
    have g3 := p2'.cellv HC103.out
    have HO2 := Lib.hid hown2
    have HGR := Lib.hid hgrow
    clear hown2 hat2 hgrow kp
    refine hK.out _ _ (r3'.cellv rfl) (fun hHeld => ?_)
    clear hK K
    try simp only [List.getElem_toArray, List.getElem_cons_zero, List.getElem_cons_succ, Act.put, List.setIfInBounds_toArray, List.set_cons_zero, List.set_cons_succ]
    refine wpAnyH_take (i := 9) (v := ?_) rfl (by kernel_rfl) (by kernel_rfl) (by kernel_rfl) (fun _ _ _ h => h) (Or.inl ⟨by rfl, ?_⟩) (by assumption) ?_
    rotate_left
    · (intro w' hSw; (try dsimp only at hSw); go_simp; with_reducible rfl)
    try simp only [List.getElem_toArray, List.getElem_cons_zero, List.getElem_cons_succ, Act.put, List.setIfInBounds_toArray, List.set_cons_zero, List.set_cons_succ]
    refine wpAnyH_take (i := 10) (v := ?_) rfl (by kernel_rfl) (by kernel_rfl) (by kernel_rfl) (fun _ _ _ h => h) (Or.inl ⟨by rfl, ?_⟩) (by assumption) ?_
    rotate_left
    · (intro w' hSw; (try dsimp only at hSw); go_simp; with_reducible rfl)
    try simp only [List.getElem_toArray, List.getElem_cons_zero, List.getElem_cons_succ, Act.put, List.setIfInBounds_toArray, List.set_cons_zero, List.set_cons_succ]
    refine wpAnyH_ready (rs := [11]) (by kernel_rfl) (by simp) ?_
    refine AllReadyH.cons rfl (fun K hK => ?_) AllReadyH.nil
    simp only [List.getElem_toArray, List.getElem_cons_zero, List.getElem_cons_succ]
    go_simp
    refine hK.out _ _ ((store_far hnx _ _).trans (r3'.cellv rfl)) (fun hHeld => ?_)
    clear hK K
    try simp only [List.getElem_toArray, List.getElem_cons_zero, List.getElem_cons_succ, Act.put, List.setIfInBounds_toArray, List.set_cons_zero, List.set_cons_succ]
    refine wpAnyH_done (by kernel_rfl) ?_ _
    have hpn : PN (w2.setCell ⟨p, 103, none⟩ (.slice (some ⟨g, 0, none⟩) (m + 1) cap2)) B p ct (L ++ [nm]) := by
      have ho := HO2.out
      refine ⟨_, _, p2'.set 103 _, by rw [Array.getElem?_setIfInBounds, if_neg (by decide)]; exact HC60.out, by rw [Array.getElem?_setIfInBounds, if_pos rfl, if_pos (Array.getElem?_eq_some_iff.1 HC103.out).1], ?_⟩
      rw [List.length_append, List.map_append, hLm]
      refine own_kept ho fun b hb => ?_
      obtain ⟨⟨es, h1⟩, _⟩ := own_row ho hb
      exact heap_set (row_ne h1 p2' (by decide))
    have hfr : Frp B p W (w2.setCell ⟨p, 103, none⟩ (.slice (some ⟨g, 0, none⟩) (m + 1) cap2)) := by
      refine ⟨HGR.out.os, HGR.out.tape, HGR.out.output, ?_, fun j hj hp => ?_⟩
      · have := HGR.out.size
        simp at this ⊢
        omega
      · rw [heap_set hp]
        refine (HGR.out.block j (by have := HBW.out; simp; omega) fun e => ?_).trans (Below.heap_alloc _ _ _ (by have := HBW.out; omega))
        have := (own_row HOW.out e.symm).2
        omega
    have R4w := (KP.out _ _ _ HR4.out (by decide)).set_other (row_ne HR4.out HPR.out (by decide)) 103 (.slice (some ⟨g, 0, none⟩) (m + 1) cap2)
    have R5w := (KP.out _ _ _ HR5.out (by decide)).set_other (row_ne HR5.out HPR.out (by decide)) 103 (.slice (some ⟨g, 0, none⟩) (m + 1) cap2)
    have hkp : KpN w (w2.setCell ⟨p, 103, none⟩ (.slice (some ⟨g, 0, none⟩) (m + 1) cap2)) := fun b es t hr h9 h163 => by
      have h1 := KP.out _ _ _ (hr.below HBB.out hr.lt) h9
      exact h1.set_other (row_ne h1 p2' h163) _ _
    have HKP := Lib.hid hkp
    have HPN := Lib.hid hpn
    have HFR := Lib.hid hfr
    have HR4w := Lib.hid R4w
    have u0 := R5w.cellv (j := 0) (v := .int .u32 2147483648) rfl
    have u1 := R5w.cellv (j := 1) (v := .int .u32 m) rfl
    have v0 := R4w.cellv (j := 0) (v := .int .u32 0) rfl
    have v1 := R4w.cellv (j := 1) (v := .int .u32 0) rfl
    have fv := R4w.frozen
    have yv := R4w.lt
    have yu := R5w.lt
    generalize hZ : w2.setCell ⟨p, 103, none⟩ (.slice (some ⟨g, 0, none⟩) (m + 1) cap2) = Z at HPN HFR HKP HR4w u0 u1 v0 v1 fv yv yu hHeld ⊢
    clear hZ hHeld hpn hfr hkp R4w R5w p2' r3' g2 g3 KP HA HNW HOW HO2 HGR HPR HR3 HR4 HR5 c103 f103 c103d a0
    go_wp2_with fail
    have q0 := ((HR4w.out.set 0 (.int .u32 2147483648)).set 1 (.int .u32 m)).cellv (j := 0) (v := .int .u32 2147483648) rfl
    have q1 := ((HR4w.out.set 0 (.int .u32 2147483648)).set 1 (.int .u32 m)).cellv (j := 1) (v := .int .u32 m) rfl
    refine bodyPost_ret (v := .agg #[.int .u32 2147483648, .int .u32 m]) (by simp [results, Try.results14, go_sem, q0, q1]) rfl ?_
    have hB4 : B ≤ w.heap.size + 1 := Nat.le_succ_of_le hB
    refine ⟨by rw [hLm], ?_, ?_, fun b es t hr h9 h163 => ?_⟩
    · obtain ⟨cs', V', k1, k2, k3, k4⟩ := HPN.out
      refine ⟨cs', V', (k1.set_other (row_ne k1 HR4w.out (by decide)) _ _).set_other (row_ne k1 HR4w.out (by decide)) _ _, k2, k3, own_kept k4 fun b hb => ?_⟩
      obtain ⟨⟨es, h1⟩, _⟩ := own_row k4 hb
      have hne := row_ne h1 HR4w.out (by decide)
      rw [heap_set hne, heap_set hne]
    · have f0 : Frp B p w W := Frp.of_below HBB.out hB
      have f1 := f0.trans HFR.out
      exact ⟨f1.os, f1.tape, f1.output, by simpa using f1.size, fun j hj hp => by
        have hne : j ≠ w.heap.size + 1 := by omega
        rw [heap_set hne, heap_set hne]
        exact f1.block j hj hp⟩
    · have hne : b ≠ w.heap.size + 1 := by have := hr.lt; omega
      exact ((HKP.out b es t hr h9 h163).set_other hne _ _).set_other hne _ _


end Go.Proofs.Ytdikaidllmhbhab.fnStoreNameScriptRoundTrip
