import Derived.Test.YtjngpnijogfmdadKit
import Derived.Test.YtjngpnijogfmdadRow
import Derived.Test.YtjngpnijogfmdadRec
import Derived.Test.YtjngpnijogfmdadAs
namespace Go.Proofs.Ytjngpnijogfmdad.fnAppendIfOrLabelBodyKeepsPrefixAndScope
open Go.ChangeShapes Go.WideShapes Go.ChangeAt Go.RowKit
set_option linter.unusedVariables false
set_option maxRecDepth 100000
set_option maxHeartbeats 2000000

theorem newAt {W : World} {b : Nat} {cs : Array Value} {t : TypeId} (hb : b = W.heap.size) : RowAt (W.alloc (.cells cs t)) b cs t := by
  subst hb
  exact RowAt.new _ _ _

/-- The cells of n statements. -/
def xs (T u : Nat → Nat) (l : Nat → Int) (n : Nat) : List Value := (List.range n).flatMap fun i => [.iface (T i) (.pointer (some ⟨u i, 0, none⟩)), .int .i32 (l i)]
theorem xs_succ (T u : Nat → Nat) (l : Nat → Int) (n : Nat) : xs T u l (n + 1) = xs T u l n ++ [.iface (T n) (.pointer (some ⟨u n, 0, none⟩)), .int .i32 (l n)] := by simp [xs, List.range_succ]
theorem xs_len (T u : Nat → Nat) (l : Nat → Int) : ∀ n, (xs T u l n).length = n * 2
  | 0 => rfl
  | n + 1 => by rw [xs_succ, List.length_append, xs_len T u l n]; simp; omega
theorem xs_get (T u : Nat → Nat) (l : Nat → Int) : ∀ {n i : Nat}, i < n → (xs T u l n)[i * 2]? = some (.iface (T i) (.pointer (some ⟨u i, 0, none⟩))) ∧ (xs T u l n)[i * 2 + 1]? = some (.int .i32 (l i))
  | 0, i, h => by omega
  | n + 1, i, h => by
    rw [xs_succ]
    by_cases e : i = n
    · subst e
      rw [List.getElem?_append_right (by rw [xs_len]; omega), List.getElem?_append_right (by rw [xs_len]; omega), xs_len]
      simp
    · rw [List.getElem?_append_left (by rw [xs_len]; omega), List.getElem?_append_left (by rw [xs_len]; omega)]
      exact xs_get T u l (by omega)
theorem xs_congr {T u T' u' : Nat → Nat} {l l' : Nat → Int} : ∀ {n : Nat}, (∀ i, i < n → T i = T' i ∧ u i = u' i ∧ l i = l' i) → xs T u l n = xs T' u' l' n
  | 0, _ => rfl
  | n + 1, h => by
    obtain ⟨h1, h2, h3⟩ := h n (by omega)
    rw [xs_succ, xs_succ, xs_congr (fun i hi => h i (by omega)), h1, h2, h3]
def glue {α : Type} (n : Nat) (f g : Nat → α) : Nat → α := fun i => if i < n then f i else g (i - n)
theorem glue_lo {α : Type} {n i : Nat} (f g : Nat → α) (h : i < n) : glue n f g i = f i := if_pos h
theorem glue_hi {α : Type} (n i : Nat) (f g : Nat → α) : glue n f g (n + i) = g i := by
  unfold glue
  rw [if_neg (by omega), Nat.add_sub_cancel_left]
theorem xs_app (T u T' u' : Nat → Nat) (l l' : Nat → Int) (n : Nat) : ∀ m, xs T u l n ++ xs T' u' l' m = xs (glue n T T') (glue n u u') (glue n l l') (n + m)
  | 0 => by
    rw [show xs T' u' l' 0 = [] from rfl, List.append_nil, Nat.add_zero]
    exact xs_congr fun i hi => ⟨(glue_lo _ _ hi).symm, (glue_lo _ _ hi).symm, (glue_lo _ _ hi).symm⟩
  | m + 1 => by
    rw [xs_succ, ← List.append_assoc, xs_app T u T' u' l l' n m, ← Nat.add_assoc, xs_succ, glue_hi, glue_hi, glue_hi]
theorem xs_one (T u : Nat → Nat) (l : Nat → Int) (n : Nat) : ∀ v ∈ xs T u l n, v.oneCell' = true := by
  intro v hv
  simp [xs] at hv
  obtain ⟨i, _, rfl | rfl⟩ := hv <;> rfl

/-- n statements lie in block g. -/
def Stms (w : World) (g n : Nat) (T u : Nat → Nat) (l : Nat → Int) : Prop := ∀ i, i < n → w.cell? ⟨g, i * 2, none⟩ = some (.iface (T i) (.pointer (some ⟨u i, 0, none⟩))) ∧ w.cell? ⟨g, i * 2 + 1, none⟩ = some (.int .i32 (l i))
section
variable {w w1 : World} {g n m : Nat} {T u T' u' : Nat → Nat} {l l' : Nat → Int}
theorem Stms_below (h : Stms w g n T u l) (hb : Below w.heap.size w w1) : Stms w1 g n T u l := fun i hi => ⟨later (h i hi).1 hb, later (h i hi).2 hb⟩
theorem Stms_xs (h : Stms w g n T u l) : ∀ j v, (xs T u l n)[j]? = some v → w.cell? ((⟨g, 0, none⟩ : Addr).add j) = some v := by
  intro j v hv
  have hj : j < n * 2 := by
    have := (List.getElem?_eq_some_iff.1 hv).1
    rw [xs_len] at this
    exact this
  rw [addr_add, Nat.zero_add]
  obtain ⟨e1, e2⟩ := xs_get T u l (n := n) (i := j / 2) (by omega)
  obtain ⟨c1, c2⟩ := h (j / 2) (by omega)
  rcases Nat.mod_two_eq_zero_or_one j with e | e
  · have ej : j / 2 * 2 = j := by omega
    rw [ej] at e1 c1
    rw [e1] at hv
    rw [c1, hv]
  · have ej : j / 2 * 2 + 1 = j := by omega
    rw [ej] at e2 c2
    rw [e2] at hv
    rw [c2, hv]
theorem Stms_own {B c : Nat} (h : w.ownsRow B 32 2 (.slice (some ⟨g, 0, none⟩) n c) n (xs T u l n)) : Stms w g n T u l := by
  obtain ⟨cs, hr, _, _, _, ht⟩ := RowAt.of_owns h
  have key : ∀ j v, j < n * 2 → (xs T u l n)[j]? = some v → cs[j]? = some v := fun j v hj hv => by
    rw [← ht, List.getElem?_take, if_pos hj] at hv
    simpa using hv
  intro i hi
  obtain ⟨e1, e2⟩ := xs_get T u l hi
  exact ⟨hr.cellv (key _ _ (by omega) e1), hr.cellv (key _ _ (by omega) e2)⟩
theorem own_shape {B : Nat} {v : Value} {ys : List Value} (h : w.ownsRow B 32 2 v n ys) (hn : 0 < n) : ∃ g c, v = .slice (some ⟨g, 0, none⟩) n c ∧ B ≤ g ∧ g < w.heap.size := by
  rcases h.2 with ⟨_, h0⟩ | ⟨g, c, cs, e, hb, hr, _⟩
  · omega
  · exact ⟨g, c, e, hb, lt_of_block hr⟩
end

/-- The pointer types of the statements that never declare anything in their scope. -/
def plainT : List Nat := [39, 42, 90, 45, 91, 92, 93, 94, 95, 96, 97, 98, 99, 56, 59, 100, 101, 102, 103]

/-- Does a statement care about its scope? -/
def Sd (w : World) (T u : Nat) (c : Bool) : Prop := (c = false ∧ T ∈ plainT) ∨ (c = true ∧ (T = 67 ∨ T = 79)) ∨ (T = 62 ∧ ∃ k, w.cell? ⟨u, 1, none⟩ = some (.int .u8 k) ∧ c = (k != 0) ∧ ∃ cs, RowAt w u cs 66)
theorem Sd_below {w w1 : World} {T u : Nat} {c : Bool} (h : Sd w T u c) (hb : Below w.heap.size w w1) : Sd w1 T u c := by
  rcases h with h | h | ⟨h, k, hc, hk, cs, hr⟩
  · exact .inl h
  · exact .inr (.inl h)
  · exact .inr (.inr ⟨h, k, later hc hb, hk, cs, hr.below hb hr.lt⟩)
theorem Sd_set {w : World} {T u g : Nat} {c : Bool} {ds : Array Value} (h : Sd w T u c) (hg : RowAt w g ds 32) (j : Nat) (v : Value) : Sd (w.setCell ⟨g, j, none⟩ v) T u c := by
  rcases h with h | h | ⟨h, k, hc, hk, cs, hr⟩
  · exact .inl h
  · exact .inr (.inl h)
  · have hne : u ≠ g := hr.diff hg (by decide)
    have hkk : (w.setCell ⟨g, j, none⟩ v).heap[u]? = w.heap[u]? := Below.heap_setCell _ _ _ _ hne
    exact .inr (.inr ⟨h, k, (World.cell?_of_block (w := w) hkk).trans hc, hk, cs, hkk.trans hr⟩)

theorem care_plain (T : Nat) (v : Value) (l : Int) (w : World) (h : T ∈ plainT) : Calls Try.prog 13 #[.agg #[.iface T v, .int .i32 l]] w fun e w' => e = .returned (.bool false) ∧ Below w.heap.size w w' := by
  simp only [plainT, List.mem_cons, List.not_mem_nil, or_false] at h
  rcases h with rfl | rfl | rfl | rfl | rfl | rfl | rfl | rfl | rfl | rfl | rfl | rfl | rfl | rfl | rfl | rfl | rfl | rfl | rfl <;> as_aux_lemma =>
    go_enter Try.func13, Try.ntmps13
    go_wp2
    go_ret
    exact ⟨rfl, by go_grown⟩
theorem care_more (T : Nat) (v : Value) (l : Int) (w : World) (h : T = 67 ∨ T = 79) : Calls Try.prog 13 #[.agg #[.iface T v, .int .i32 l]] w fun e w' => e = .returned (.bool true) ∧ Below w.heap.size w w' := by
  rcases h with rfl | rfl <;> as_aux_lemma =>
    go_enter Try.func13, Try.ntmps13
    go_wp2
    go_ret
    exact ⟨rfl, by go_grown⟩
theorem care_local (b : Nat) (k l : Int) (w : World) (hc : w.cell? ⟨b, 1, none⟩ = some (.int .u8 k)) :
    Calls Try.prog 13 #[.agg #[.iface 62 (.pointer (some ⟨b, 0, none⟩)), .int .i32 l]] w fun e w' => e = .returned (.bool (k != 0)) ∧ Below w.heap.size w w' := by
  have hb := cell_lt hc
  go_enter Try.func13, Try.ntmps13
  go_wp2
  go_ret
  exact ⟨rfl, by go_grown⟩
theorem care (w : World) (T u : Nat) (c : Bool) (l : Int) (h : Sd w T u c) : Calls Try.prog 13 #[.agg #[.iface T (.pointer (some ⟨u, 0, none⟩)), .int .i32 l]] w fun e w' => e = .returned (.bool c) ∧ Below w.heap.size w w' := by
  rcases h with ⟨rfl, hT⟩ | ⟨rfl, hT⟩ | ⟨rfl, k, hc, rfl, _⟩
  · exact care_plain T _ l w hT
  · exact care_more T _ l w hT
  · exact care_local u k l w hc

/-- The types of the statements that are made. -/
def simT : List Nat := [42, 45, 56, 59, 62, 67, 79]
/-- A new statement. -/
def Stm (w : World) (l : Int) (c : Bool) (e : Ending) (w' : World) : Prop := ∃ T u, e = .returned (.agg #[.iface T (.pointer (some ⟨u, 0, none⟩)), .int .i32 l]) ∧ T ∈ simT ∧ Sd w' T u c ∧ Below w.heap.size w w'
theorem simple0 (l : Int) (w : World) (h0 : 0 ≤ l) (h1 : l ≤ 1000000) : Calls Try.prog 10 #[.int .i64 0, .int .i64 l] w (Stm w l false) := by
  go_enter Try.func10, Try.ntmps10
  go_wp2
  go_returns
  exact ⟨_, _, rfl, by decide, .inl ⟨rfl, by decide⟩, by go_grown⟩
theorem simple1 (l : Int) (w : World) (h0 : 0 ≤ l) (h1 : l ≤ 1000000) : Calls Try.prog 10 #[.int .i64 1, .int .i64 l] w (Stm w l false) := by
  go_enter Try.func10, Try.ntmps10
  go_wp2
  go_returns
  exact ⟨_, _, rfl, by decide, .inl ⟨rfl, by decide⟩, by go_grown⟩
theorem simple2 (l : Int) (w : World) (h0 : 0 ≤ l) (h1 : l ≤ 1000000) : Calls Try.prog 10 #[.int .i64 2, .int .i64 l] w (Stm w l false) := by
  go_enter Try.func10, Try.ntmps10
  go_wp2
  go_returns
  exact ⟨_, _, rfl, by decide, .inl ⟨rfl, by decide⟩, by go_grown⟩
theorem simple3 (l : Int) (w : World) (h0 : 0 ≤ l) (h1 : l ≤ 1000000) : Calls Try.prog 10 #[.int .i64 3, .int .i64 l] w (Stm w l false) := by
  go_enter Try.func10, Try.ntmps10
  go_wp2
  go_returns
  exact ⟨_, _, rfl, by decide, .inl ⟨rfl, by decide⟩, by go_grown⟩
theorem simple4 (l : Int) (w : World) (h0 : 0 ≤ l) (h1 : l ≤ 1000000) : Calls Try.prog 10 #[.int .i64 4, .int .i64 l] w (Stm w l false) := by
  go_enter Try.func10, Try.ntmps10
  go_wp2
  go_returns
  exact ⟨_, _, rfl, by decide, .inr (.inr ⟨rfl, 0, (newAt (by simp)).cellv rfl, by decide, _, newAt (by simp)⟩), by go_grown⟩
theorem simple5 (l : Int) (w : World) (h0 : 0 ≤ l) (h1 : l ≤ 1000000) : Calls Try.prog 10 #[.int .i64 5, .int .i64 l] w (Stm w l true) := by
  go_enter Try.func10, Try.ntmps10
  go_wp2
  go_returns
  exact ⟨_, _, rfl, by decide, .inr (.inr ⟨rfl, 1, (newAt (by simp)).cellv rfl, by decide, _, newAt (by simp)⟩), by go_grown⟩
theorem simple6 (l : Int) (w : World) (h0 : 0 ≤ l) (h1 : l ≤ 1000000) : Calls Try.prog 10 #[.int .i64 6, .int .i64 l] w (Stm w l true) := by
  go_enter Try.func10, Try.ntmps10
  go_wp2
  go_returns
  exact ⟨_, _, rfl, by decide, .inr (.inr ⟨rfl, 2, (newAt (by simp)).cellv rfl, by decide, _, newAt (by simp)⟩), by go_grown⟩
theorem simple7 (l : Int) (w : World) (h0 : 0 ≤ l) (h1 : l ≤ 1000000) : Calls Try.prog 10 #[.int .i64 7, .int .i64 l] w (Stm w l true) := by
  go_enter Try.func10, Try.ntmps10
  go_wp2
  go_returns
  exact ⟨_, _, rfl, by decide, .inr (.inl ⟨rfl, .inl rfl⟩), by go_grown⟩
theorem simple8 (l : Int) (w : World) (h0 : 0 ≤ l) (h1 : l ≤ 1000000) : Calls Try.prog 10 #[.int .i64 8, .int .i64 l] w (Stm w l true) := by
  go_enter Try.func10, Try.ntmps10
  go_wp2
  go_returns
  exact ⟨_, _, rfl, by decide, .inr (.inl ⟨rfl, .inr rfl⟩), by go_grown⟩
theorem simple (k l : Int) (w : World) (k0 : 0 ≤ k) (k1 : k ≤ 8) (h0 : 0 ≤ l) (h1 : l ≤ 1000000) : Calls Try.prog 10 #[.int .i64 k, .int .i64 l] w (Stm w l (decide (5 ≤ k))) := by
  have h : k = 0 ∨ k = 1 ∨ k = 2 ∨ k = 3 ∨ k = 4 ∨ k = 5 ∨ k = 6 ∨ k = 7 ∨ k = 8 := by omega
  rcases h with rfl | rfl | rfl | rfl | rfl | rfl | rfl | rfl | rfl
  · exact simple0 l w h0 h1
  · exact simple1 l w h0 h1
  · exact simple2 l w h0 h1
  · exact simple3 l w h0 h1
  · exact simple4 l w h0 h1
  · exact simple5 l w h0 h1
  · exact simple6 l w h0 h1
  · exact simple7 l w h0 h1
  · exact simple8 l w h0 h1

end Go.Proofs.Ytjngpnijogfmdad.fnAppendIfOrLabelBodyKeepsPrefixAndScope
