import Derived.Test.YtjngpnijogfmdacKit
import Derived.Test.YtjngpnijogfmdacTiN
namespace Go.Proofs.Ytjngpnijogfmdac.fnTryToInsertOptionalChainMarksExactlyTheTail
open Go.ChangeShapes Go.WideShapes Go.ChangeAt Go.RowKit
set_option linter.unusedVariables false
set_option maxRecDepth 100000
set_option maxHeartbeats 2000000

theorem addr0 (B i : Nat) : (⟨B, 0, none⟩ : Addr).add i = ⟨B, i, none⟩ := by
  unfold Addr.add
  split
  · rename_i h; rw [h]
  · simp

theorem K8s_below {w w1 : World} {a : Option Addr} {n : Nat} {z : Nat → Int} (h : K8s w a n z) (hb : Below w.heap.size w w1) : K8s w1 a n z := fun i hi => by
  obtain ⟨x, e, hc, h0⟩ := h i hi
  exact ⟨x, e, later hc hb, h0⟩

/-- A copy of the kinds; a copy of the names. -/
def Cl6 (n : Nat) (z : Nat → Int) (w : World) (e : Ending) (w' : World) : Prop := ∃ b, e = .returned (.slice b n n) ∧ K8s w' b n z ∧ Below w.heap.size w w'
def Cl7 (n : Nat) (S : Nat → ByteArray) (w : World) (e : Ending) (w' : World) : Prop := ∃ b, e = .returned (.slice b n n) ∧ Strs w' b n S ∧ Below w.heap.size w w'
theorem getD_map (z : Nat → Int) (n i : Nat) (h : i < n) : ((List.range n).map z).getD i 0 = z i := by
  rw [List.getD_eq_getElem?_getD, List.getElem?_eq_getElem (by simpa using h)]
  simp
theorem cl6 (a : Option Addr) (n c : Nat) (z : Nat → Int) (w : World) (hn : n ≤ 1048576) (hs : a = none → n = 0 ∧ c = 0) (h : K8s w a n z) : Calls Try.prog 6 #[.slice a n c] w (Cl6 n z w) := by
  cases a with
  | none =>
    obtain ⟨rfl, rfl⟩ := hs rfl
    refine (clone6_nil w).mono ?_
    rintro e w' ⟨rfl, rfl⟩
    exact ⟨none, rfl, fun i hi => by omega, Below.refl _ _⟩
  | some x =>
    refine (clone6 x n c ((List.range n).map z) w hn (fun i hi => ?_)).mono ?_
    · obtain ⟨y, e, hc, _⟩ := h i hi
      cases e
      rw [getD_map z n i hi]
      exact hc
    · rintro e w' ⟨rfl, hr, hb⟩
      refine ⟨_, rfl, fun i hi => ⟨_, rfl, ?_, (h i hi).choose_spec.2.2⟩, hb⟩
      have := hr.cell hi
      rw [getD_map z n i hi] at this
      rw [addr0]
      exact this
theorem cl7 (a : Option Addr) (n c : Nat) (S : Nat → ByteArray) (w : World) (hn : n ≤ 1048576) (hs : a = none → n = 0 ∧ c = 0) (h : Strs w a n S) : Calls Try.prog 7 #[.slice a n c] w (Cl7 n S w) := by
  cases a with
  | none =>
    obtain ⟨rfl, rfl⟩ := hs rfl
    refine (clone7_nil w).mono ?_
    rintro e w' ⟨rfl, rfl⟩
    exact ⟨none, rfl, fun i hi => by omega, Below.refl _ _⟩
  | some x =>
    refine (clone7 x n c S w hn (fun i hi => ?_)).mono ?_
    · obtain ⟨y, e, hc⟩ := h i hi
      cases e
      exact hc
    · rintro e w' ⟨rfl, hr, hb⟩
      refine ⟨_, rfl, fun i hi => ⟨_, rfl, ?_⟩, hb⟩
      have := hr.cell hi
      rw [addr0]
      exact this

/-- Names that are not too long stay so. -/
theorem nameOf_le (n : Nat) (S : Nat → ByteArray) (h : ∀ i, i < n → (S i).size ≤ 1048576) : ∀ i, (nameOf n S i).size ≤ 1048576 := fun i => by
  unfold nameOf
  split
  · exact h i ‹_›
  · show (0 : Nat) ≤ _
    omega
def Small1 : St → Prop
  | .dot nm => nm.size ≤ 1048576
  | .idx nm => nm.size ≤ 1048576
  | .call => True
theorem Small_cons {x : St} {s : List St} (h : Small1 x) (hs : Small s) : Small (x :: s) := by
  cases x
  · exact ⟨h, hs⟩
  · exact ⟨h, hs⟩
  · exact hs
theorem Small_stp (z : Nat → Int) (n : Nat) (S : Nat → ByteArray) (h : ∀ i, (nameOf n S i).size ≤ 1048576) : ∀ i, Small1 (stp z n S i) := fun i => by
  unfold stp
  split
  · exact h i
  · split
    · exact h i
    · trivial
theorem Small_tops (f : Nat → St) (h : ∀ i, Small1 (f i)) : ∀ n, Small (tops f n)
  | 0 => trivial
  | n + 1 => Small_cons (h n) (Small_tops f h n)

/-- The row of nodes, each with its mark. -/
def Nodes (w : World) (R n : Nat) (f : Nat → St) (b : Nat → Nat) (F : Nat → Int) : Prop :=
  (∃ cs : Array Value, RowAt w R cs 46 ∧ cs.size = n * 3 ∧ ∀ i, i < n → ∀ j, j < 3 → cs[i * 3 + j]? = some (nodeP (f i) (b i) j)) ∧ ∀ i, i < n → ∃ T v, nodeRow w T v (f i, b i, F i)
theorem Nodes_below {w w1 : World} {R n : Nat} {f : Nat → St} {b : Nat → Nat} {F : Nat → Int} (h : Nodes w R n f b F) (hb : Below w.heap.size w w1) : Nodes w1 R n f b F := by
  obtain ⟨⟨cs, hr, hs, hx⟩, hn⟩ := h
  exact ⟨⟨cs, hr.below hb hr.lt, hs, hx⟩, fun i hi => by
    obtain ⟨T, v, h⟩ := hn i hi
    exact ⟨T, v, nodeRow_below hb h⟩⟩
theorem MC_Lk {w : World} {r : Int} {ub : Nat} {f : Nat → St} {b : Nat → Nat} : ∀ {k : Nat}, MC w r ub (Lk f b k) → ∀ i, i < k → ∃ T v, nodeRow w T v (f i, b i, 0)
  | 0, _, i, hi => by omega
  | k + 1, h, i, hi => by
    rw [Lk] at h
    obtain ⟨h1, _, _, h4⟩ := h
    by_cases e : i = k
    · subst e
      exact ⟨_, _, h1⟩
    · exact MC_Lk h4 i (by omega)
theorem MC_Mk {w : World} {r : Int} {ub p : Nat} {f : Nat → St} {b : Nat → Nat} : ∀ {k : Nat}, MC w r ub (Mk f b p k) → ∀ i, i < k → ∃ T v, nodeRow w T v (f i, b i, mk p i)
  | 0, _, i, hi => by omega
  | k + 1, h, i, hi => by
    rw [Mk] at h
    obtain ⟨h1, _, _, h4⟩ := h
    by_cases e : i = k
    · subst e
      exact ⟨_, _, h1⟩
    · exact MC_Mk h4 i (by omega)
theorem Chn_nodes {w w' : World} {r : Int} {f : Nat → St} {R ub n : Nat} {b : Nat → Nat} (h : Chn w w' r f R ub n b) : Nodes w' R n f b (fun _ => 0) := ⟨h.nd, MC_Lk h.mc⟩
theorem XL_Lk {f : Nat → St} {b : Nat → Nat} {j : Nat} : ∀ {k : Nat}, XL (Lk f b k) j → ∃ i, i < k ∧ b i = j
  | 0, ⟨y, hy, _⟩ => by
    rw [Lk] at hy
    cases hy
  | k + 1, ⟨y, hy, e⟩ => by
    rw [Lk] at hy
    rcases List.mem_cons.1 hy with rfl | hy
    · exact ⟨k, by omega, e⟩
    · obtain ⟨i, hi, h⟩ := XL_Lk ⟨y, hy, e⟩
      exact ⟨i, by omega, h⟩

/-- Which answer is wanted; which marks are left. -/
def wantB (r r' : Int) (fT fE : Nat → St) (n1 n4 : Nat) : Bool := decide (r = r' ∧ n1 < n4 ∧ ∀ i, i < n1 → fT i = fE i)
def mOf (D : Bool) (p : Nat) : Nat → Int := fun i => if D then mk p i else 0
theorem tried {w5 w6 w' : World} {r r' : Int} {fT fE : Nat → St} {n1 n4 RE uE : Nat} {bE : Nat → Nat} {e : Ending} (hC : Chn w5 w6 r' fE RE uE n4 bE) (hb : Below w5.heap.size w5 w6) (h : Try9 r r' (tops fT n1) uE (Lk fE bE n4) w6 e w') :
    e = .returned (.bool (wantB r r' fT fE n1 n4)) ∧ Nodes w' RE n4 fE bE (mOf (wantB r r' fT fE n1 n4) n1) ∧ Below w5.heap.size w5 w' := by
  obtain ⟨h1, h2, h3⟩ := h
  rw [marks] at h1 h2
  obtain ⟨cs, hr, hs, hx⟩ := hC.nd
  have hR : RowAt w' RE cs 46 := (h3.block _ hr.lt (by
    rintro ⟨y, hy, e⟩
    obtain ⟨ds, hd⟩ := MC_nodes hC.mc y hy
    rw [e] at hd
    exact hd.diff hr (by cases y.1 <;> simp [nodeT]) rfl)).trans hr
  have hB : Below w5.heap.size w5 w' := by
    refine ⟨h3.os.trans hb.os, h3.tape.trans hb.tape, h3.output.trans hb.output, Nat.le_trans hb.size h3.size, fun j hj => ?_⟩
    refine (h3.block j (Nat.lt_of_lt_of_le hj hb.size) ?_).trans (hb.block j hj)
    intro hX
    obtain ⟨i, hi, e⟩ := XL_Lk hX
    have := hC.lo i hi
    omega
  by_cases hw : r = r' ∧ n1 < n4 ∧ ∀ i, i < n1 → fT i = fE i
  · rw [if_pos hw] at h1 h2
    have hD : wantB r r' fT fE n1 n4 = true := decide_eq_true hw
    rw [hD]
    exact ⟨h1, ⟨⟨cs, hR, hs, hx⟩, MC_Mk h2⟩, hB⟩
  · rw [if_neg hw] at h1 h2
    have hD : wantB r r' fT fE n1 n4 = false := decide_eq_false hw
    rw [hD]
    exact ⟨h1, ⟨⟨cs, hR, hs, hx⟩, MC_Lk h2⟩, hB⟩

/-- What the frame gives on the slices. -/
theorem k8s {w : World} {a : Option Addr} {n c : Nat} {zs : List Int} (h : IsRow .u8 w a n c zs) : K8s w a n (fun i => zs.getD i 0) ∧ (a = none → n = 0 ∧ c = 0) ∧ n ≤ 9223372036854775807 := by
  rcases h with ⟨rfl, rfl, rfl, _⟩ | ⟨x, rfl, hl, hm, hz, hc, hw⟩
  · exact ⟨fun i hi => by omega, fun _ => ⟨rfl, rfl⟩, by omega⟩
  · unfold maxLen at hm
    refine ⟨fun i hi => ⟨x, rfl, hc i (by omega), ?_⟩, (fun e => by cases e), by omega⟩
    exact bounds_u8 (hw (zs.getD i 0) (by rw [List.getD_eq_getElem?_getD, List.getElem?_eq_getElem (by omega)]; simp))
theorem strs {w : World} {a : Option Addr} {n c : Nat} {S : Nat → ByteArray} (h : IsStrs w a n c S) : Strs w a n S ∧ (a = none → n = 0 ∧ c = 0) ∧ n ≤ 9223372036854775807 ∧ ∀ i, i < n → (S i).size ≤ 9223372036854775807 := by
  rcases h with ⟨rfl, rfl, rfl⟩ | ⟨x, rfl, hl, hm, hc⟩
  · exact ⟨fun i hi => by omega, fun _ => ⟨rfl, rfl⟩, by omega, fun i hi => by omega⟩
  · unfold maxLen at hm
    refine ⟨fun i hi => ⟨x, rfl, (hc i (by omega)).1⟩, (fun e => by cases e), by omega, fun i hi => ?_⟩
    have := (hc i (by omega)).2
    unfold maxLen at this
    exact this

end Go.Proofs.Ytjngpnijogfmdac.fnTryToInsertOptionalChainMarksExactlyTheTail
