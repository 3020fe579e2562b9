import Derived.Test.YtailfkedgdlldacKit
import Derived.Test.YtailfkedgdlldacRsB
import Derived.Deep.AppendLies
import Derived.Deep.RegionLaw
namespace Go.Proofs.Ytailfkedgdlldac
open Go.ChangeShapes Go.WideShapes Go.ChangeAt Go.RowKit
set_option linter.unusedVariables false
set_option maxRecDepth 100000
set_option maxHeartbeats 2000000

theorem info61 : (Try.prog.info? 61).map (fun i => (i.zero, i.size, i.bytes)) = some (some (.pointer none), 1, 8) := by kernel_rfl

theorem made1 {w : World} {B R n : Nat} {E : TypeId} {v : Value} (h : w.ownsRow B E 1 (.slice (some ⟨R, 0, none⟩) n n) n (madeCells #[v] n).toList) : Cells w R E n (fun _ => v) := by
  have h' : w.ownsRow B E 1 (.slice (some ⟨R, 0, none⟩) n n) n (madeCells #[v] (n * 1)).toList := by rw [Nat.mul_one]; exact h
  have := Cells.made h'
  rw [Nat.mul_one] at this
  exact this.congr fun i _ => by simp [Nat.mod_one]

/-- A new scope's cells. -/
def sc0 (m : Int) : Array Value := #[.pointer none, .pointer none, .slice none 0 0, .map none, .slice none 0 0, .slice none 0 0, .int .i32 0, .int .i32 0, .int .u32 0, .int .u32 0, .bool false, .bool false, .bool false, .bool false, .int .u8 m, .int .u8 0]

/-- The first k scopes have been made. -/
structure Blt (w : World) (B R n k : Nat) (z : List Int) (P : Nat → Nat) : Prop where
  cells : Cells w R 61 n (fun j => if j < k then ptrV P j else .pointer none)
  row : ∀ j, j < k → RowAt w (P j) (sc0 (z.getD j 0)) 75
  inj : ∀ i j, i < k → j < k → P i = P j → i = j
  ge : ∀ j, j < k → B ≤ P j

theorem Blt.step {w : World} {B R n k : Nat} {z : List Int} {P : Nat → Nat} (h : Blt w B R n k z P) (hk : k < n) (hB : B ≤ w.heap.size) :
    Blt ((w.setCell ⟨R, k, none⟩ (.pointer (some ⟨w.heap.size, 0, none⟩))).alloc (.cells (sc0 (z.getD k 0)) 75)) B R n (k + 1) z (fun j => if j = k then w.heap.size else P j) := by
  have hR := h.cells.lt
  have old : ∀ j, j < k → P j < w.heap.size := fun j hj => (h.row j hj).lt
  refine ⟨?_, fun j hj => ?_, fun i j hi hj e => ?_, fun j hj => ?_⟩
  · refine ((h.cells.set k _).alloc _).congr fun j hj => ?_
    unfold upd
    by_cases e : j = k
    · subst e
      rw [if_pos rfl, if_pos (by omega)]
      simp [ptrV]
    · rw [if_neg e]
      show (if j < k then ptrV P j else .pointer none) = _
      by_cases h2 : j < k
      · rw [if_pos h2, if_pos (by omega)]
        simp [ptrV, e]
      · rw [if_neg h2, if_neg (by omega)]
  · by_cases e : j = k
    · subst e
      simp only [if_pos]
      exact RowAt.newAt (by simp)
    · simp only [if_neg e]
      have hr := h.row j (by omega)
      obtain ⟨ds, d1, _⟩ := h.cells
      exact (hr.set_other (hr.ne d1 (by decide)) k _).alloc _
  · replace e : (if i = k then w.heap.size else P i) = (if j = k then w.heap.size else P j) := e
    by_cases e1 : i = k
    · by_cases e2 : j = k
      · omega
      · rw [if_pos e1, if_neg e2] at e
        have := old j (by omega)
        omega
    · by_cases e2 : j = k
      · rw [if_neg e1, if_pos e2] at e
        have := old i (by omega)
        omega
      · rw [if_neg e1, if_neg e2] at e
        exact h.inj i j (by omega) (by omega) e
  · by_cases e : j = k
    · simp only [if_pos e]; exact hB
    · simp only [if_neg e]; exact h.ge j (by omega)


/-- The children of j among the first i. -/
def kids (par : Nat → Nat) (i j : Nat) : List Nat := (List.range i).filter (fun c => decide (0 < c ∧ par c = j))
theorem kids_succ (par : Nat → Nat) (i j : Nat) : kids par (i + 1) j = kids par i j ++ if 0 < i ∧ par i = j then [i] else [] := by
  unfold kids
  rw [List.range_succ, List.filter_append]
  by_cases h : 0 < i ∧ par i = j
  · simp [h]
  · rw [if_neg h]
    simp only [List.filter_cons, List.filter_nil]
    simp [h]
theorem kids_one (par : Nat → Nat) (j : Nat) : kids par 1 j = [] := rfl
theorem kids_len (par : Nat → Nat) (i j : Nat) : (kids par i j).length ≤ i := by
  have := List.length_filter_le (fun c => decide (0 < c ∧ par c = j)) (List.range i)
  simpa [kids] using this
theorem kids_mem (par : Nat → Nat) (i j c : Nat) : c ∈ kids par i j ↔ (par c = j ∧ 0 < c ∧ c < i) := by
  unfold kids
  simp
  constructor
  · rintro ⟨h1, h2, h3⟩; exact ⟨h3, h2, h1⟩
  · rintro ⟨h1, h2, h3⟩; exact ⟨h3, h2, h1⟩
theorem kids_nodup (par : Nat → Nat) (i j : Nat) : (kids par i j).Nodup := List.Pairwise.filter _ List.nodup_range

/-- The scopes while the children are laid. -/
structure Grw (w : World) (B R n i : Nat) (par : Nat → Nat) (z : List Int) (P : Nat → Nat) (V : Nat → Value) : Prop where
  cells : Cells w R 61 n (ptrV P)
  row : ∀ j, j < n → ∃ cs, RowAt w (P j) cs 75 ∧ cs.size = 16 ∧ cs[14]? = some (.int .u8 (z.getD j 0)) ∧ cs[2]? = some (V j)
  own : ∀ j, j < n → w.ownsRow B 61 1 (V j) (kids par i j).length ((kids par i j).map (ptrV P))
  inj : ∀ i j, i < n → j < n → P i = P j → i = j
  ge : ∀ j, j < n → B ≤ P j
  apart : ∀ j k, j < n → k < n → j ≠ k → ∀ g, (V j).ownBlock = some g → (V k).ownBlock ≠ some g
  offR : ∀ j, j < n → (V j).ownBlock ≠ some R

theorem own_row {w : World} {B n g : Nat} {v : Value} {xs : List Value} (h : w.ownsRow B 61 1 v n xs) (hg : v.ownBlock = some g) : ∃ cs, RowAt w g cs 61 ∧ B ≤ g := by
  rcases h.2 with ⟨rfl, _⟩ | ⟨g', cap, cur, rfl, hb, hh, _⟩
  · cases hg
  · have : g' = g := by simpa [Value.ownBlock] using hg
    subst this
    exact ⟨cur, hh, hb⟩
theorem own_kept {w w' : World} {B n : Nat} {v : Value} {xs : List Value} (h : w.ownsRow B 61 1 v n xs) (hk : ∀ g, v.ownBlock = some g → w'.heap[g]? = w.heap[g]?) : w'.ownsRow B 61 1 v n xs := by
  obtain ⟨h1, h2⟩ := h
  refine ⟨h1, ?_⟩
  rcases h2 with h2 | ⟨g, cap, cur, hv, hb, hh, h3⟩
  · exact .inl h2
  · exact .inr ⟨g, cap, cur, hv, hb, (hk g (by rw [hv]; rfl)).trans hh, h3⟩

theorem Grw.start {w : World} {B R n : Nat} {par : Nat → Nat} {z : List Int} {P : Nat → Nat} (h : Blt w B R n n z P) : Grw w B R n 1 par z P (fun _ => .slice none 0 0) :=
  ⟨h.cells.congr fun i hi => if_pos hi, fun j hj => ⟨_, h.row j hj, rfl, rfl, rfl⟩, fun j _ => World.ownsRow_nil _ _ _ _, h.inj, h.ge, fun j k _ _ _ g hg => by (cases hg), fun j _ hg => by (cases hg)⟩

theorem Grw.parent {w : World} {B R n i j : Nat} {par : Nat → Nat} {z : List Int} {P : Nat → Nat} {V : Nat → Value} (h : Grw w B R n i par z P V) (hj : j < n) (x : Value) : Grw (w.setCell ⟨P j, 1, none⟩ x) B R n i par z P V := by
  obtain ⟨cs0, r0, _⟩ := h.row j hj
  have ⟨ds, d1, _⟩ := h.cells
  refine ⟨h.cells.set_other (d1.ne r0 (by decide)) 1 x, fun k hk => ?_, fun k hk => own_kept (h.own k hk) fun g hg => ?_, h.inj, h.ge, h.apart, h.offR⟩
  · obtain ⟨cs, r1, r2, r3, r4⟩ := h.row k hk
    by_cases e : k = j
    · subst e
      exact ⟨_, r1.set 1 x, by simp [r2], by rw [Array.getElem?_setIfInBounds, if_neg (by omega)]; exact r3, by rw [Array.getElem?_setIfInBounds, if_neg (by omega)]; exact r4⟩
    · exact ⟨cs, r1.set_other (fun e' => e (h.inj k j hk hj e')) 1 x, r2, r3, r4⟩
  · obtain ⟨es, e1, _⟩ := own_row (h.own k hk) hg
    exact Below.heap_setCell _ _ _ _ (e1.ne r0 (by decide))

theorem Grw.step {W W' w2 : World} {B R n i g cap : Nat} {par : Nat → Nat} {z : List Int} {P : Nat → Nat} {V : Nat → Value} (h : Grw W B R n i par z P V) (hi : i < n) (hi0 : 0 < i) (hq : par i < n) (hW : ∀ j, j < W.heap.size → W'.heap[j]? = W.heap[j]?) (hWs : W'.heap.size = W.heap.size + 1)
    (hown : w2.ownsRow B 61 1 (.slice (some ⟨g, 0, none⟩) ((kids par i (par i)).length + 1) cap) ((kids par i (par i)).length + 1) ((kids par i (par i)).map (ptrV P) ++ [ptrV P i])) (hgrow : W'.grownBy w2 (V (par i)).ownBlock) (hat : (V (par i)).ownBlock = some g ∨ g = W.heap.size + 1) :
    Grw (w2.setCell ⟨P (par i), 2, none⟩ (.slice (some ⟨g, 0, none⟩) ((kids par i (par i)).length + 1) cap)) B R n (i + 1) par z P (fun j => if j = par i then .slice (some ⟨g, 0, none⟩) ((kids par i (par i)).length + 1) cap else V j) := by
  have old : ∀ j, j < W.heap.size → (V (par i)).ownBlock ≠ some j → w2.heap[j]? = W.heap[j]? := fun j hj hne => (hgrow.block j (by omega) (fun e => hne e.symm)).trans (hW j hj)
  obtain ⟨cs0, r0, r01, r02, r03⟩ := h.row (par i) hq
  have rowne : ∀ j, j < n → (V (par i)).ownBlock ≠ some (P j) := fun j hj hg => by
    obtain ⟨es, e1, _⟩ := own_row (h.own (par i) hq) hg
    obtain ⟨ds, d1, _⟩ := h.row j hj
    exact e1.ne d1 (by decide) rfl
  have row2 : ∀ j, j < n → ∃ cs, RowAt w2 (P j) cs 75 ∧ cs.size = 16 ∧ cs[14]? = some (.int .u8 (z.getD j 0)) ∧ cs[2]? = some (V j) := fun j hj => by
    obtain ⟨ds, d1, d2⟩ := h.row j hj
    exact ⟨ds, d1.kept (old _ d1.lt (rowne j hj)), d2⟩
  have hR2 : Cells w2 R 61 n (ptrV P) := h.cells.kept (old R h.cells.lt (h.offR _ hq))
  obtain ⟨cs2, s0, s1, s2, s3⟩ := row2 (par i) hq
  have blt : ∀ j g', j < n → (V j).ownBlock = some g' → g' < W.heap.size := fun j g' hj hg => by
    obtain ⟨es, e1, _⟩ := own_row (h.own j hj) hg
    exact e1.lt
  refine ⟨?_, fun j hj => ?_, fun j hj => ?_, h.inj, h.ge, fun j k hj hk hjk g' hg => ?_, fun j hj => ?_⟩
  · have ⟨ds, d1, _⟩ := hR2
    exact hR2.set_other (d1.ne s0 (by decide)) 2 _
  · obtain ⟨cs, t1, t2, t3, t4⟩ := row2 j hj
    by_cases e : j = par i
    · subst e
      refine ⟨_, t1.set 2 _, by simp [t2], by rw [Array.getElem?_setIfInBounds, if_neg (by omega)]; exact t3, ?_⟩
      rw [Array.getElem?_setIfInBounds, if_pos rfl, if_pos (by omega), if_pos rfl]
    · exact ⟨cs, t1.set_other (fun e' => e (h.inj j _ hj hq e')) 2 _, t2, t3, by rw [if_neg e]; exact t4⟩
  · have keep : ∀ g' cs, RowAt w2 g' cs 61 → (w2.setCell ⟨P (par i), 2, none⟩ (.slice (some ⟨g, 0, none⟩) ((kids par i (par i)).length + 1) cap)).heap[g']? = w2.heap[g']? := fun g' cs hg => Below.heap_setCell _ _ _ _ (hg.ne s0 (by decide))
    by_cases e : j = par i
    · subst e
      rw [if_pos rfl, kids_succ, if_pos ⟨hi0, rfl⟩]
      simp only [List.length_append, List.length_cons, List.length_nil, List.map_append, List.map_cons, List.map_nil]
      exact owns_kept hown keep
    · rw [if_neg e, kids_succ, if_neg (fun h' => e h'.2.symm), List.append_nil]
      refine owns_kept (own_kept (h.own j hj) fun g' hg => ?_) keep
      exact old g' (blt j g' hj hg) (fun hg' => h.apart j (par i) hj hq e g' hg hg')
  · by_cases e1 : j = par i
    · rw [if_pos e1] at hg
      have hgg : g = g' := by simpa [Value.ownBlock] using hg
      subst hgg
      rw [if_neg (fun e2 => hjk (e1.trans e2.symm))]
      intro hk'
      rcases hat with hat | hat
      · exact h.apart (par i) k hq hk (fun e2 => hjk (e1.trans e2)) g hat hk'
      · have := blt k g hk hk'
        omega
    · rw [if_neg e1] at hg
      by_cases e2 : k = par i
      · rw [if_pos e2]
        intro hk'
        have hgg : g = g' := by simpa [Value.ownBlock] using hk'
        subst hgg
        rcases hat with hat | hat
        · exact h.apart j (par i) hj hq e1 g hg hat
        · have := blt j g hj hg
          omega
      · rw [if_neg e2]
        exact h.apart j k hj hk hjk g' hg
  · by_cases e : j = par i
    · rw [if_pos e]
      intro hg
      have hgg : g = R := by simpa [Value.ownBlock] using hg
      rcases hat with hat | hat
      · exact h.offR _ hq (by rw [hat, hgg])
      · have := h.cells.lt
        omega
    · rw [if_neg e]
      exact h.offR j hj


end Go.Proofs.Ytailfkedgdlldac
