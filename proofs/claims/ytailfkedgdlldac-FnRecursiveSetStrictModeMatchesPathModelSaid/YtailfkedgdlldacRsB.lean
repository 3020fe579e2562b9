import Derived.Test.YtailfkedgdlldacKit
import Derived.Test.YtailfkedgdlldacRsP
import Derived.Test.YtailfkedgdlldacCells
namespace Go.Proofs.Ytailfkedgdlldac
open Go.ChangeShapes Go.WideShapes Go.ChangeAt Go.RowKit
set_option linter.unusedVariables false
set_option maxRecDepth 100000
set_option maxHeartbeats 2000000

theorem RowAt.ne {w : World} {a b : Nat} {cs ds : Array Value} {s t : TypeId} (h : RowAt w a cs s) (g : RowAt w b ds t) (hn : s ≠ t) : a ≠ b := by
  intro e
  subst e
  unfold RowAt at h g
  rw [h] at g
  injection g with g
  injection g with _ g
  exact hn g
theorem RowAt.newAt {W : World} {b : Nat} {cs : Array Value} {t : TypeId} (hb : b = W.heap.size) : RowAt (W.alloc (.cells cs t)) b cs t := by
  subst hb
  exact RowAt.new _ _ _
theorem RowAt.kept {w w' : World} {b : Nat} {cs : Array Value} {t : TypeId} (h : RowAt w b cs t) (hk : w'.heap[b]? = w.heap[b]?) : RowAt w' b cs t := hk.trans h

/-- Nothing but the blocks of X has turned, new ones apart. -/
structure Fr (X : Nat → Prop) (w w' : World) : Prop where
  os : w'.os = w.os
  tape : w'.tape = w.tape
  output : w'.output = w.output
  size : w.heap.size ≤ w'.heap.size
  block : ∀ j, j < w.heap.size → ¬ X j → w'.heap[j]? = w.heap[j]?
theorem Fr.below {X : Nat → Prop} {w w' : World} {B : Nat} (h : Fr X w w') (hX : ∀ j, X j → B ≤ j) (hB : B ≤ w.heap.size) : Below B w w' :=
  ⟨h.os, h.tape, h.output, h.size, fun j hj => h.block j (by omega) (fun hx => by have := hX j hx; omega)⟩
theorem Fr.refl {X : Nat → Prop} {w : World} : Fr X w w := ⟨rfl, rfl, rfl, Nat.le_refl _, fun _ _ _ => rfl⟩
theorem Fr.trans {X : Nat → Prop} {w w' w'' : World} (h : Fr X w w') (g : Fr X w' w'') : Fr X w w'' :=
  ⟨g.os.trans h.os, g.tape.trans h.tape, g.output.trans h.output, Nat.le_trans h.size g.size, fun j hj hx => (g.block j (Nat.lt_of_lt_of_le hj h.size) hx).trans (h.block j hj hx)⟩
theorem Fr.set {X : Nat → Prop} {w w' : World} (h : Fr X w w') {b o : Nat} {v : Value} (hb : X b ∨ w.heap.size ≤ b) : Fr X w (w'.setCell ⟨b, o, none⟩ v) :=
  ⟨h.os, h.tape, h.output, by simpa using h.size, fun j hj hx => by
    rw [Below.heap_setCell _ _ _ _ (fun e => by subst e; rcases hb with hb | hb; exact hx hb; omega)]
    exact h.block j hj hx⟩

def ptrV (P : Nat → Nat) (c : Nat) : Value := .pointer (some ⟨P c, 0, none⟩)

theorem owns_kept {w w' : World} {B n : Nat} {v : Value} {xs : List Value} (h : w.ownsRow B 61 1 v n xs) (hk : ∀ g cs, RowAt w g cs 61 → w'.heap[g]? = w.heap[g]?) : w'.ownsRow B 61 1 v n xs := by
  obtain ⟨h1, h2⟩ := h
  refine ⟨h1, ?_⟩
  rcases h2 with h2 | ⟨g, cap, cur, hv, hb, hh, h3⟩
  · exact .inl h2
  · exact .inr ⟨g, cap, cur, hv, hb, (hk g cur hh).trans hh, h3⟩

/-- The scopes: each in a block of its own, its mode, its children. -/
structure Tree (w : World) (B N : Nat) (P : Nat → Nat) (ch : Nat → List Nat) (M : Nat → Int) : Prop where
  row : ∀ i, i < N → ∃ cs v, RowAt w (P i) cs 75 ∧ cs[14]? = some (.int .u8 (M i)) ∧ cs[2]? = some v ∧ w.ownsRow B 61 1 v (ch i).length ((ch i).map (ptrV P))
  inj : ∀ i j, i < N → j < N → P i = P j → i = j

def PX (P : Nat → Nat) (N : Nat) : Nat → Prop := fun b => ∃ i, i < N ∧ b = P i

theorem Tree.congr {w : World} {B N : Nat} {P : Nat → Nat} {ch : Nat → List Nat} {M M' : Nat → Int} (h : Tree w B N P ch M) (e : ∀ i, i < N → M i = M' i) : Tree w B N P ch M' :=
  ⟨fun i hi => by
    obtain ⟨cs, v, h1, h2, h3⟩ := h.row i hi
    exact ⟨cs, v, h1, by rw [h2, e i hi], h3⟩, h.inj⟩

theorem Tree.set14 {w : World} {B N i : Nat} {P : Nat → Nat} {ch : Nat → List Nat} {M : Nat → Int} (h : Tree w B N P ch M) (hi : i < N) (x : Int) : Tree (w.setCell ⟨P i, 14, none⟩ (.int .u8 x)) B N P ch (fun j => if j = i then x else M j) := by
  obtain ⟨cs0, v0, r0, r1, _⟩ := h.row i hi
  refine ⟨fun j hj => ?_, h.inj⟩
  obtain ⟨cs, v, h1, h2, h3, h4⟩ := h.row j hj
  have hown : (w.setCell ⟨P i, 14, none⟩ (.int .u8 x)).ownsRow B 61 1 v (ch j).length ((ch j).map (ptrV P)) := owns_kept h4 fun g ds hg => Below.heap_setCell _ _ _ _ (hg.ne r0 (by decide))
  by_cases e : j = i
  · subst e
    refine ⟨_, v, h1.set 14 _, ?_, ?_, hown⟩
    · have hl : 14 < cs.size := (Array.getElem?_eq_some_iff.1 h2).1
      rw [Array.getElem?_setIfInBounds, if_pos rfl, if_pos hl, if_pos rfl]
    · rw [Array.getElem?_setIfInBounds, if_neg (by omega)]
      exact h3
  · refine ⟨cs, v, h1.set_other (fun e' => e (h.inj j i hj hi e')) 14 _, by rw [if_neg e]; exact h2, h3, hown⟩

/-- A child's pointer, as it lies in the row of its parent's children. -/
theorem kid_cell {w : World} {B l n : Nat} {v : Value} {P : Nat → Nat} {L : List Nat} (h : w.ownsRow B 61 1 v n (L.map (ptrV P))) (hn : n = L.length) (hl : l < L.length) : ∃ g cap cs, v = .slice (some ⟨g, 0, none⟩) n cap ∧ RowAt w g cs 61 ∧ cs[l]? = some (ptrV P (L.getD l 0)) := by
  obtain ⟨h1, h2⟩ := h
  rcases h2 with ⟨_, h2⟩ | ⟨g, cap, cur, hv, hb, hh, h3, h4, h5, h6⟩
  · omega
  · refine ⟨g, cap, cur, hv, hh, ?_⟩
    have : (cur.toList.take (n * 1))[l]? = (L.map (ptrV P))[l]? := by rw [h6]
    rw [List.getElem?_take, if_pos (by omega)] at this
    simp at this
    rw [this, List.getD_eq_getElem?_getD, List.getElem?_eq_getElem hl]
    simp

theorem set24 (B N : Nat) (P par : Nat → Nat) (ch : Nat → List Nat) (kind : Int) (hN : N ≤ 65536) (hch : ∀ i c, i < N → (c ∈ ch i ↔ (par c = i ∧ i < c ∧ c < N))) (hnd : ∀ i, i < N → (ch i).Nodup) (hlen : ∀ i, i < N → (ch i).length ≤ N) (hp : ∀ x, 0 < x → x < N → par x < x) :
    ∀ (fuel i : Nat) (M : Nat → Int) (w : World), N - i ≤ fuel → i < N → Tree w B N P ch M → Calls Try.prog 24 #[.pointer (some ⟨P i, 0, none⟩), .int .u8 kind] w fun e w' => e = .returned (.tuple #[]) ∧ Tree w' B N P ch (setAt par kind i M) ∧ Fr (PX P N) w w'
  | 0, i, M, w, hf, hi, h => by omega
  | fuel + 1, i, M, w, hf, hi, h => by
    obtain ⟨cs, v, r1, r2, r3, r4⟩ := h.row i hi
    have c14 := r1.cellv r2
    have f14 := r1.frozen 14
    have c2 := r1.cellv r3
    have H := Lib.hid h
    have R4 := Lib.hid r4
    have R1 := Lib.hid r1
    by_cases h0 : M i = 0
    · have h0' : (M i == 0) = true := by simpa using h0
      have H0 := Lib.hid h0
      have T1 : Hid (Tree (w.setCell ⟨P i, 14, none⟩ (.int .u8 kind)) B N P ch (setSome par kind i ((ch i).take 0) M)) := by
        unfold Hid
        rw [List.take_zero, setSome_nil]
        exact h.set14 hi kind
      have hlb := hlen i hi
      obtain ⟨len, hl⟩ : ∃ len, (ch i).length = len := ⟨_, rfl⟩
      have hown := R4.out
      rw [hl] at hown hlb
      have HL := Lib.hid hl
      have HO := Lib.hid hown
      rcases hown.2 with ⟨h1, h2⟩ | ⟨g, cap, cur, hv, hgB, hg, hnc, hcm, hcs, htk⟩
      · obtain rfl := h1
        have h2' : len ≤ 0 := by omega
        clear h h0 r1 r2 r3 r4 hl hown R4 h2 HO
        go_enter Try.func24, Try.ntmps24
        go_wp2_with fail
        go_loopw [20, 5] (fun v20 _ wr => ∃ l : Nat, l ≤ len ∧ v20 = .int .i64 l ∧ Tree wr B N P ch (setSome par kind i ((ch i).take l) M) ∧ Fr (PX P N) w wr) (fun v20 _ _ => len - (intOf v20).toNat)
        case atStart => exact ⟨0, Nat.zero_le _, rfl, T1.out, Fr.refl.set (.inl ⟨i, hi, rfl⟩)⟩
        case round =>
          obtain ⟨l, hll, rfl, hT, hF⟩ := hrel
          have HT := Lib.hid hT
          have HF := Lib.hid hF
          clear hT hF T1
          by_cases hlt : l < len
          · exact absurd hlt (by omega)
          · obtain rfl : l = len := by omega
            clear hlt
            go_wp2_with fail
            go_end0
            refine ⟨rfl, ?_, HF.out⟩
            have hT := HT.out
            rw [← HL.out, List.take_length] at hT
            exact hT.congr fun j hj => setSome_all kind (ch i) N H0.out (fun c => hch i c hi) (fun x h1 h2 => hp x (by omega) h2) hj
      · obtain rfl := hv
        have HG : Hid (RowAt w g cur 61) := hg
        have HX := Lib.hid htk
        unfold maxLen at hcm
        clear h h0 r1 r2 r3 r4 hl hown R4 hg htk hcs hgB HO
        go_enter Try.func24, Try.ntmps24
        go_wp2_with fail
        go_loopw [20, 5] (fun v20 _ wr => ∃ l : Nat, l ≤ len ∧ v20 = .int .i64 l ∧ Tree wr B N P ch (setSome par kind i ((ch i).take l) M) ∧ Fr (PX P N) w wr) (fun v20 _ _ => len - (intOf v20).toNat)
        case atStart => exact ⟨0, Nat.zero_le _, rfl, T1.out, Fr.refl.set (.inl ⟨i, hi, rfl⟩)⟩
        case round =>
          obtain ⟨l, hll, rfl, hT, hF⟩ := hrel
          have HT := Lib.hid hT
          have HF := Lib.hid hF
          clear hT hF T1
          by_cases hlt : l < len
          · obtain ⟨c, hc⟩ : ∃ c, (ch i).getD l 0 = c := ⟨_, rfl⟩
            have hlt' : l < (ch i).length := by rw [HL.out]; exact hlt
            have hget : (ch i)[l] = c := by rw [← hc, List.getD_eq_getElem?_getD, List.getElem?_eq_getElem hlt']; rfl
            have hmem : c ∈ ch i := by rw [← hget]; exact List.getElem_mem hlt'
            obtain ⟨k1, k2, k3⟩ := (hch i c hi).1 hmem
            have hcell : cur[l]? = some (.pointer (some ⟨P c, 0, none⟩)) := by
              have e : (cur.toList.take (len * 1))[l]? = ((ch i).map (ptrV P))[l]? := by rw [HX.out]
              rw [List.getElem?_take, if_pos (by omega), List.getElem?_map, List.getElem?_eq_getElem hlt', hget] at e
              simpa [ptrV] using e
            have hgr : RowAt wr g cur 61 := HG.out.kept (HF.out.block g HG.out.lt (by
              rintro ⟨j, hj, e⟩
              obtain ⟨ds, _, q1, _⟩ := H.out.row j hj
              exact HG.out.ne q1 (by decide) e))
            have cl := hgr.cellv hcell
            have HM := Lib.hid (setSome_snoc (par := par) (M := M) (i := i) (c' := c) kind ((ch i).take l) (fun c0 hc0 => by
              have hm : c0 ∈ ch i := List.mem_of_mem_take hc0
              obtain ⟨m1, m2, _⟩ := (hch i c0 hi).1 hm
              refine ⟨m1, m2, fun e => ?_⟩
              subst e
              obtain ⟨l0, hl0, hg0⟩ := List.getElem_of_mem hc0
              rw [List.getElem_take] at hg0
              rw [List.length_take] at hl0
              exact List.pairwise_iff_getElem.1 (hnd i hi) l0 l (by omega) hlt' (by omega) (hg0.trans hget.symm)) k1 k2)
            have HE : Hid ((ch i).take (l + 1) = (ch i).take l ++ [c]) := by
              unfold Hid
              rw [List.take_succ_eq_append_getElem hlt', hget]
            clear hcell hgr hget hmem hc hlt' k1
            go_wp2_with fail
            refine (set24 B N P par ch kind hN hch hnd hlen hp fuel c _ wr (by omega) k3 HT.out).mono ?_
            rintro e w2 ⟨rfl, t2, f2⟩
            have T2 : Hid (Tree w2 B N P ch (setSome par kind i ((ch i).take (l + 1)) M)) := by
              unfold Hid
              rw [HE.out, ← HM.out]
              exact t2
            have F2 := Lib.hid (HF.out.trans f2)
            clear t2 f2
            go_wp2_with fail
            go_roundw
            case rel => exact ⟨l + 1, by omega, by go_num, T2.out, F2.out⟩
            case measure => simp [intOf]; omega
          · obtain rfl : l = len := by omega
            clear hlt
            go_wp2_with fail
            go_end0
            refine ⟨rfl, ?_, HF.out⟩
            have hT := HT.out
            rw [← HL.out, List.take_length] at hT
            exact hT.congr fun j hj => setSome_all kind (ch i) N H0.out (fun c => hch i c hi) (fun x h1 h2 => hp x (by omega) h2) hj
    · have h0' : (M i == 0) = false := by simpa using h0
      have H0 := Lib.hid h0
      clear h h0 r1 r2 r3 r4
      go_enter Try.func24, Try.ntmps24
      go_wp2_with fail
      go_end0
      refine ⟨rfl, ?_, Fr.refl⟩
      rw [setAt_no kind H0.out]
      exact H.out

end Go.Proofs.Ytailfkedgdlldac
