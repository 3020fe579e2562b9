/-
  A great region that draws its order, whose operations but the last few only read: its order's check in parts (each its own theorem: the kernel's memory), its walk by a script of values (each operation's run by an equation).
-/
import Derived.Test.YtkncfhhiookgdabGreatFmtKit
import Derived.StillTail
import Derived.Deep.MidRow
import Derived.OrdersHeld
import Derived.Deep.RegionHeld
namespace Go.Proofs.YtkncfhhiookgdabGreatFmt
open Go.RowKit

/-- The operations of the regions of a body, in order. -/
def regOf : Code → List (List Oper)
  | .region _ o _ => [o.toList]
  | .seq a b => regOf a ++ regOf b
  | _ => []
/-- The regions of a body by their numbers. -/
def regsOf : Code → List (Nat × List Oper)
  | .region id o _ => [(id, o.toList)]
  | .seq a b => regsOf a ++ regsOf b
  | .cond _ a b => regsOf a ++ regsOf b
  | .block _ b => regsOf b
  | .loop b => regsOf b
  | .scope b => regsOf b
  | .rangeFunc _ _ a b => regsOf a ++ regsOf b
  | _ => []
def rgAt (f : Func) (k : Nat) : List Oper := (((f.body.map regsOf).getD []).lookup k).getD []
/-- Those below k have come up. -/
def Lk (n k : Nat) : Array Bool := ((List.range n).map (fun i => Nat.blt i k)).toArray
theorem Lk_zero (n : Nat) : Lk n 0 = Array.replicate n false := by
  apply Array.ext
  · simp [Lk]
  · intro i h1 h2
    simp [Lk]
    rfl
theorem Lk_succ (n k : Nat) : (Lk n k).setIfInBounds k true = Lk n (k + 1) := by
  apply Array.ext
  · simp [Lk]
  · intro i h1 h2
    simp only [Lk, List.setIfInBounds_toArray, List.getElem_toArray, List.getElem_set, List.getElem_map, List.getElem_range]
    by_cases e : k = i
    · subst e; simp
    · rw [if_neg e]
      rw [Bool.eq_iff_iff]
      simp only [Nat.blt_eq]
      omega
/-- Operation k may come up as the k-th. -/
def stepOk (ops : Array Oper) (n k : Nat) : Bool := (Region.ready .any ops (Lk n k)).contains k && Region.free .any ops (Lk n k) k
theorem lexHead_of {ops : Array Oper} {N g : Nat} : ∀ (f k : Nat), (∀ j, k ≤ j → j < k + f → stepOk ops N j = true) → Region.seqB .any ops g (k + f) (Lk N (k + f)) = true → Region.lexHead .any ops g f k (Lk N k) = true
  | 0, k, _, hs => hs
  | f + 1, k, h, hs => by
    have h0 := h k (Nat.le_refl _) (by omega)
    unfold stepOk at h0
    simp only [Region.lexHead, Bool.and_eq_true] at h0 ⊢
    refine ⟨h0, ?_⟩
    rw [Lk_succ]
    exact lexHead_of f (k + 1) (fun j h1 h2 => h j (by omega) (by omega)) (by rw [show k + 1 + f = k + (f + 1) by omega]; exact hs)
theorem lexTail_of {ops : Array Oper} {N n : Nat} (hN : ops.size = N) (hn : n < N) (h1 : Region.noSelect ops = true) (h2 : Region.sinkB .any ops n = true) (h3 : Region.chainB .any ops n = true)
    (h4 : ∀ j, j < n → stepOk ops N j = true) (h5 : Region.seqB .any ops (N - n) n (Lk N n) = true) : Region.lexTailB .any ops n = true := by
  subst hN
  unfold Region.lexTailB
  rw [h1, h2, h3, ← Lk_zero]
  simp only [Bool.true_and, Bool.and_true, Bool.and_eq_true, decide_eq_true_eq]
  exact ⟨hn, lexHead_of n 0 (fun j _ hj => h4 j (by omega)) (by rw [Nat.zero_add]; exact h5)⟩
theorem chunk {ops : Array Oper} {N k m : Nat} (h : ((List.range m).all fun i => stepOk ops N (k + i)) = true) : ∀ j, k ≤ j → j < k + m → stepOk ops N j = true := by
  intro j h1 h2
  have := List.all_eq_true.1 h (j - k) (List.mem_range.2 (by omega))
  rwa [show k + (j - k) = j by omega] at this

section
variable {P : Program} {ops : Array Oper} {w : World}
theorem still_one {Q : Act → Prop} {a : Act} {o : Oper} {rest : List Oper} {v : Value} (hw : Region.wanted o (yielded ops a.tmps) = true) (hrun : (execOp a.eval o).run P w = .ok (.value v) w)
    (h : wpStill P ops w Q rest (a.put o.dst v)) : wpStill P ops w Q (o :: rest) a := by
  unfold wpStill
  rw [if_pos hw]
  unfold Oper.still
  rw [hrun, Oper.stillUpon_value]
  exact h
theorem still_act {Q : Act → Prop} {a a' : Act} {rest : List Oper} (e : a = a') (h : wpStill P ops w Q rest a') : wpStill P ops w Q rest a := e ▸ h
/-- No operation: what lies past a list's end. -/
def noOper : Oper := ⟨none, .move (.tmp 0), 0, "", #[], none⟩
theorem still_at {Q : Act → Prop} {a : Act} {l : List Oper} (i : Nat) {d : Option Nat} {v : Value} (hi : Nat.blt i l.length = true) (hd : (l.getD i noOper).dst = d) (hw : Region.wanted (l.getD i noOper) (yielded ops a.tmps) = true)
    (hrun : (execOp a.eval (l.getD i noOper)).run P w = .ok (.value v) w) (h : wpStill P ops w Q (l.drop (i + 1)) (a.put d v)) : wpStill P ops w Q (l.drop i) a := by
  have hi' : i < l.length := by simpa using hi
  have e : l.getD i noOper = l[i] := by simp [List.getD, hi']
  rw [List.drop_eq_getElem_cons hi']
  rw [e] at hd hw hrun
  subst hd
  exact still_one hw hrun h
theorem still_to {Q : Act → Prop} {a a' : Act} {l : List Oper} (i : Nat) {d : Option Nat} {v : Value} (hi : Nat.blt i l.length = true) (hd : (l.getD i noOper).dst = d) (hw : Region.wanted (l.getD i noOper) (yielded ops a.tmps) = true)
    (hrun : (execOp a.eval (l.getD i noOper)).run P w = .ok (.value v) w) (ha : a.put d v = a') (h : wpStill P ops w Q (l.drop (i + 1)) a') : wpStill P ops w Q (l.drop i) a := by
  subst ha
  exact still_at i hi hd hw hrun h
/-- The frame of which the first k slots are known. -/
def cutAct (l : List Value) (n k : Nat) : Act := ⟨(l.take k ++ List.replicate (n - k) undef).toArray, []⟩
theorem still_end {Q : Act → Prop} {a : Act} {l : List Oper} (i : Nat) (hi : Nat.ble l.length i = true) (h : Q a) : wpStill P ops w Q (l.drop i) a := by
  rw [List.drop_eq_nil_of_le (by simpa using hi)]
  exact h
theorem run_ld {a : Act} {o : Oper} {T : TypeId} {x : Operand} {A : Addr} {v : Value} (ho : o.op = .load T x) (hx : a.eval x = .pointer (some A)) (hl : (loadVar T A).run P w = .ok v w) : (execOp a.eval o).run P w = .ok (.value v) w := by
  unfold execOp
  simp only [ho, hx, Instr.loadAt, Instr.sureAddr, Sem.run_bind, Sem.run_pure, Result.andThen_ok, hl]
theorem run_ld1 (A : Addr) (T : TypeId) (v : Value) (W : World) (ha : (isAgg T).run P W = .ok false W) (h : W.cell? A = some v) : (loadVar T A).run P W = .ok v W := by
  unfold loadVar
  simp [ha, h, go_sem]
theorem run_bd {a : Act} {o : Oper} {T : TypeId} {parts : Array (Nat × Operand)} {vs : Array (Nat × Value)} {v : Value} (ho : o.op = .build T parts) (hvs : (parts.map fun (i, x) => (i, a.eval x)) = vs) (hrun : (Instr.build T vs).run P w = .ok v w) :
    (execOp a.eval o).run P w = .ok (.value v) w := by
  unfold execOp
  rw [ho]
  simp only [hvs, Sem.run_bind, hrun, Result.andThen_ok, Sem.run_pure]
/-- A result that lies in memory: what the function hands back is what lies there. -/
theorem results_cell {fn : Func} {tmps : Array Value} {k T : Nat} {A : Addr} {v : Value} (hr : fn.results = #[.cell k T]) (h2 : tmps.getD k undef = .pointer (some A)) (hl : (loadVar T A).run P w = .ok v w) : (results fn tmps).run P w = .ok v w := by
  have h2' : tmps[k]?.getD undef = .pointer (some A) := by simpa using h2
  simp [results, hr, asAddr, h2', hl]

/-! A call that leaves the world alone may be taken first as well. -/
variable {Q : Exit → Act → World → Prop} {S : World → Prop}
/-- Operation o would do the same in both frames. -/
def Alike' (ops : Array Oper) (o : Oper) (a0 a : Act) : Prop := execOp a.eval o = execOp a0.eval o ∧ Region.wanted o (yielded ops a.tmps) = Region.wanted o (yielded ops a0.tmps)
theorem wpOp_alike {j : Nat} {oi oj : Oper} {a0 a : Act} {w : World} {K : Act → World → Prop} (hj : ops[j]? = some oj) (hap : oi.apart ops oj = true) (hsi : ∀ cs b, oi.op ≠ .select cs b) (hy : Alike' ops oi a0 a) (h : wpOp P ops Q j K a w) :
    wpOp P ops Q j (fun a' w' => Alike' ops oi a0 a' ∧ K a' w') a w := by
  have h3 := (Oper.apart_spec hap).2.2
  have k1 : ∀ (b : Act) u, Alike' ops oi a0 b → Alike' ops oi a0 (b.put oj.dst u) := fun b u hb => ⟨(execOp_put oi hsi b oj.dst u h3).trans hb.1, (wanted_put oi b oj.dst u h3).trans hb.2⟩
  have k2 : ∀ d, Alike' ops oi a0 { a with defers := d :: a.defers } := fun d => hy
  unfold wpOp at *
  simp only [hj] at *
  split at h
  · rename_i hw
    rw [if_pos hw]
    rcases h with h | h
    · refine .inl ?_
      unfold Oper.wp at *
      generalize (execOp a.eval oj).run P w = r at *
      cases r with
      | ok n w' =>
        cases n <;> simp only [Oper.upon] at h ⊢
        case value u => exact ⟨k1 a u hy, h⟩
        case skip => exact ⟨k1 a _ hy, h⟩
        case defer d => exact ⟨k1 _ _ (k2 d), h⟩
        case enter f args =>
          refine Calls.mono h fun e w'' he => ?_
          cases e with
          | returned u => exact ⟨k1 a u hy, he⟩
          | panicked c => exact he
          | outgrown => exact he
        case row row args => exact Rows.mono h fun u w'' he => ⟨k1 a u hy, he⟩
      | halt x w' => cases x <;> simp only [Oper.upon] at h ⊢ <;> exact h
    · exact .inr h
  · rename_i hw
    rw [if_neg hw]
    exact ⟨k1 a _ hy, h⟩
/-- In this frame operation o enters a function that hands back v and leaves every world of S as it is. -/
def EntersIf (P : Program) (ops : Array Oper) (S : World → Prop) (o : Oper) (v : Value) (a : Act) : Prop :=
  Region.wanted o (yielded ops a.tmps) = true ∧ ∀ w, S w → ∃ f args, (execOp a.eval o).run P w = .ok (.enter f args) w ∧ Calls P f args w fun e w'' => e = .returned v ∧ w = w''
theorem EntersIf.give {i : Nat} {o : Oper} {v : Value} {a : Act} {w : World} {K : Act → World → Prop} (hi : ops[i]? = some o) (hy : EntersIf P ops S o v a) (hS : S w) (h : K (a.put o.dst v) w) : wpOp P ops Q i K a w := by
  obtain ⟨f, args, hrun, hc⟩ := hy.2 w hS
  unfold wpOp
  simp only [hi, hy.1, if_true]
  refine .inl ?_
  unfold Oper.wp
  rw [hrun, Oper.upon_enter]
  exact Calls.mono hc fun e w'' ⟨he, hw⟩ => by subst he; subst hw; exact h
theorem heldC_first {i : Nat} {oi : Oper} {v : Value} (hi : ops[i]? = some oi) (hsel : ∀ (j : Nat) (o : Oper) cs b, ops[j]? = some o → o.op ≠ .select cs b) (hQ : ∀ c a w, Q (.panic c) (a.put oi.dst v) w → Q (.panic c) a w) {a0 : Act} (hy : EntersIf P ops S oi v a0) :
    ∀ (fuel : Nat) (listed : Array Bool) (a : Act) (w : World),
      (∀ j oj, ops[j]? = some oj → j ≠ i → listed.getD j true = false → (∀ e ∈ oj.after, Region.binds .any e = true → e.on ≠ i) → oi.apart ops oj = true) →
      i ∈ Region.ready .any ops listed → Alike' ops oi a0 a → S w → wpAnyH P .any ops Q S fuel (listed.setIfInBounds i true) (a.put oi.dst v) w → wpAnyH P .any ops Q S (fuel + 1) listed a w := by
  have now : ∀ {a : Act}, Alike' ops oi a0 a → EntersIf P ops S oi v a := fun hA => ⟨hA.2.trans hy.1, fun w hS => by rw [hA.1]; exact hy.2 w hS⟩
  intro fuel
  induction fuel with
  | zero =>
    intro listed a w _ hr hA hS H
    refine ⟨fun h => absurd (h ▸ hr) (List.not_mem_nil), fun j hj => ?_⟩
    by_cases hji : j = i
    · subst hji
      exact (now hA).give hi hS ⟨hS, H⟩
    · exact absurd (H.1 ▸ ready_mono hj hji) (List.not_mem_nil)
  | succ fuel ih =>
    intro listed a w hfree hr hA hS H
    refine ⟨fun h => absurd (h ▸ hr) (List.not_mem_nil), fun j hj => ?_⟩
    by_cases hji : j = i
    · subst hji
      exact (now hA).give hi hS ⟨hS, H⟩
    obtain ⟨hjun, oj, hoj, hall⟩ := mem_ready.1 hj
    have hi0 := (mem_ready.1 hr).1
    have hwait : ∀ e ∈ oj.after, Region.binds .any e = true → e.on ≠ i := by
      intro e he hb heq
      have h1 := hall e he hb
      rw [heq] at h1
      have hlt : i < listed.size := by
        rcases Nat.lt_or_ge i listed.size with h' | h'
        · exact h'
        · simp [Array.getElem?_eq_none h'] at h1
      simp [hlt] at hi0 h1
      rw [hi0] at h1
      cases h1
    have hap := hfree j oj hoj hji hjun hwait
    have h1 := H.2 j (ready_mono hj hji)
    have hF : YieldsIf P ops (fun _ => False) oi v a := .inl ⟨(now hA).1, fun _ h => h.elim⟩
    have h2 := wpOp_alike hoj hap (fun cs b => hsel i oi cs b hi) hA (wpOp_putIf hoj hap (fun cs b => hsel i oi cs b hi) (fun cs b => hsel j oj cs b hoj) hQ hF h1)
    refine wpOp_mono (fun a' w' h3 => ?_) h2
    obtain ⟨hA', _, hS', h4⟩ := h3
    refine ⟨hS', ih (listed.setIfInBounds j true) a' w' ?_ (ready_mono hr (Ne.symm hji)) hA' hS' (by rw [Array.setIfInBounds_comm _ _ hji]; exact h4)⟩
    intro k ok hk hki hun hno
    refine hfree k ok hk hki ?_ hno
    by_cases hjk : j = k
    · subst hjk
      exact hjun
    · rwa [getD_set_ne true hjk] at hun

/-- Operation i, the i-th to come up: it reads. -/
theorem held_to {fuel : Nat} {a a' : Act} {l : List Oper} (i N : Nat) {d : Option Nat} {v : Value} (ho : l.toArray[i]? = some (l.getD i noOper)) (hd : (l.getD i noOper).dst = d) (hsel : Region.noSelect l.toArray = true) (hok : stepOk l.toArray N i = true)
    (hQ : ∀ c a w, Q (.panic c) (a.put d v) w → Q (.panic c) a w) (hw : Region.wanted (l.getD i noOper) (yielded l.toArray a.tmps) = true)
    (hrun : ∀ w, S w → (execOp a.eval (l.getD i noOper)).run P w = .ok (.value v) w) (hS : S w) (ha : a.put d v = a') (h : wpAnyH P .any l.toArray Q S fuel (Lk N (i + 1)) a' w) : wpAnyH P .any l.toArray Q S (fuel + 1) (Lk N i) a w := by
  subst ha
  subst hd
  simp only [stepOk, Bool.and_eq_true] at hok
  exact wpAnyH_take ho hsel hok.2 hok.1 hQ (.inl ⟨hw, hrun⟩) hS (by rw [Lk_succ]; exact h)
/-- The same for a call that leaves the world alone. -/
theorem held_call {fuel : Nat} {a a' : Act} {l : List Oper} (i N : Nat) {d : Option Nat} {v : Value} (ho : l.toArray[i]? = some (l.getD i noOper)) (hd : (l.getD i noOper).dst = d) (hsel : Region.noSelect l.toArray = true) (hok : stepOk l.toArray N i = true)
    (hQ : ∀ c a w, Q (.panic c) (a.put d v) w → Q (.panic c) a w) (hw : Region.wanted (l.getD i noOper) (yielded l.toArray a.tmps) = true) (f : FuncId) (args : Array Value)
    (hrun : ∀ w, (execOp a.eval (l.getD i noOper)).run P w = .ok (.enter f args) w) (hc : ∀ w, S w → Calls P f args w fun e w'' => e = .returned v ∧ w = w'') (hS : S w) (ha : a.put d v = a')
    (h : wpAnyH P .any l.toArray Q S fuel (Lk N (i + 1)) a' w) : wpAnyH P .any l.toArray Q S (fuel + 1) (Lk N i) a w := by
  subst ha
  subst hd
  simp only [stepOk, Bool.and_eq_true] at hok
  exact heldC_first ho (Region.noSelect_spec hsel) hQ (a0 := a) ⟨hw, fun w hS => ⟨f, args, hrun w, hc w hS⟩⟩ fuel (Lk N i) a w (Region.free_spec ho hok.2) (by simpa using hok.1) ⟨rfl, rfl⟩ hS (by rw [Lk_succ]; exact h)

/-- An operation whose guard is not met. -/
theorem held_skip {fuel : Nat} {a a' : Act} {l : List Oper} (i N : Nat) {d : Option Nat} (ho : l.toArray[i]? = some (l.getD i noOper)) (hd : (l.getD i noOper).dst = d) (hsel : Region.noSelect l.toArray = true) (hok : stepOk l.toArray N i = true)
    (hQ : ∀ c a w, Q (.panic c) (a.put d undef) w → Q (.panic c) a w) (hw : Region.wanted (l.getD i noOper) (yielded l.toArray a.tmps) = false) (hS : S w) (ha : a.put d undef = a')
    (h : wpAnyH P .any l.toArray Q S fuel (Lk N (i + 1)) a' w) : wpAnyH P .any l.toArray Q S (fuel + 1) (Lk N i) a w := by
  subst ha
  subst hd
  simp only [stepOk, Bool.and_eq_true] at hok
  exact wpAnyH_take ho hsel hok.2 hok.1 hQ (.inr ⟨hw, rfl⟩) hS (by rw [Lk_succ]; exact h)
/-- A frame: 'vals' (the first i of them) laid over 'base' from slot s on. -/
def frAct (base vals : List Value) (s i : Nat) : Act := ⟨(base.take s ++ (vals.take i ++ base.drop (s + i))).toArray, []⟩
theorem reg_conv {id : Nat} {ops : Array Oper} {b : Bool} {a : Act} (l : List Oper) (h : ops = l.toArray) (hh : (Code.region id l.toArray b).wp P Q a w) : (Code.region id ops b).wp P Q a w := h ▸ hh
/-- The beginning of a drawn region whose walk goes by a script. -/
theorem held_begin {id N : Nat} {l : List Oper} {a a' : Act} (hm : P.follows .mixedOrders = true) (hN : l.toArray.size = N) (ha : a = a') (hS : S w.drew) (h : S w.drew → wpAnyH P .any l.toArray Q S N (Lk N 0) a' w.drew) : (Code.region id l.toArray true).wp P Q a w := by
  subst ha
  refine wp_region_held_drew (S := S) hm hS (fun hS => ?_)
  rw [hN, ← Lk_zero]
  exact h hS
theorem held_done {N : Nat} {l : List Oper} {a a' : Act} (hr : Region.ready .any l.toArray (Lk N N) = []) (ha : a = a') (h : Q .normal a' w) : wpAnyH P .any l.toArray Q S 0 (Lk N N) a w := by
  subst ha
  exact ⟨hr, h⟩
/-- An operation that gives a value, whatever it does to the world. -/
theorem wp_value {o : Oper} {a : Act} {w w' : World} {K : Act → World → Prop} {d : Option Nat} {v : Value} (hd : o.dst = d) (hrun : (execOp a.eval o).run P w = .ok (.value v) w') (h : K (a.put d v) w') : o.wp P a w K Q := by
  subst hd
  unfold Oper.wp
  rw [hrun, Oper.upon_value]
  exact h
theorem wp_enter {o : Oper} {a : Act} {w : World} {K : Act → World → Prop} {d : Option Nat} {f : FuncId} {args : Array Value} (hd : o.dst = d) (hrun : (execOp a.eval o).run P w = .ok (.enter f args) w)
    (h : Calls P f args w fun e w' => ∃ v, e = .returned v ∧ K (a.put d v) w') : o.wp P a w K Q := by
  subst hd
  unfold Oper.wp
  rw [hrun, Oper.upon_enter]
  exact Calls.mono h fun e w'' ⟨v, he, hk⟩ => by subst he; exact hk
theorem run_alloc_of {a : Act} {o : Oper} {T : TypeId} {cs : Array Value} (ho : o.op = .alloc T) (hz : (zeroValue T).run P w = .ok (.agg cs) w) : (execOp a.eval o).run P w = .ok (.value (.pointer (some ⟨w.heap.size, 0, none⟩))) (w.alloc (.cells cs T)) := by
  unfold execOp
  rw [ho]
  simp [Instr.alloc, hz, newVar, newRow, Value.cells, go_sem]
/-- Operation i comes first, whatever has come up: it reads. -/
theorem held_at {fuel : Nat} {a a' : Act} {l : List Oper} {L : Array Bool} (i : Nat) {d : Option Nat} {v : Value} (ho : l.toArray[i]? = some (l.getD i noOper)) (hd : (l.getD i noOper).dst = d) (hsel : Region.noSelect l.toArray = true) (hf : Region.free .any l.toArray L i = true) (hr : (Region.ready .any l.toArray L).contains i = true)
    (hQ : ∀ c a w, Q (.panic c) (a.put d v) w → Q (.panic c) a w) (hw : Region.wanted (l.getD i noOper) (yielded l.toArray a.tmps) = true)
    (hrun : ∀ w, S w → (execOp a.eval (l.getD i noOper)).run P w = .ok (.value v) w) (hS : S w) (ha : a.put d v = a') (h : wpAnyH P .any l.toArray Q S fuel (L.setIfInBounds i true) a' w) : wpAnyH P .any l.toArray Q S (fuel + 1) L a w := by
  subst ha
  subst hd
  exact wpAnyH_take ho hsel hf hr hQ (.inl ⟨hw, hrun⟩) hS h
/-- Operation i comes up now, by its own law. -/
theorem held_op {fuel : Nat} {a : Act} {l : List Oper} {L : Array Bool} {i : Nat} (ho : l.toArray[i]? = some (l.getD i noOper)) (hw : Region.wanted (l.getD i noOper) (yielded l.toArray a.tmps) = true)
    (h : (l.getD i noOper).wp P a w (fun a' w' => S w' ∧ wpAnyH P .any l.toArray Q S fuel (L.setIfInBounds i true) a' w') Q) : wpOp P l.toArray Q i (fun a' w' => S w' ∧ wpAnyH P .any l.toArray Q S fuel (L.setIfInBounds i true) a' w') a w := by
  unfold wpOp
  rw [ho]
  simp only [hw, if_true]
  exact .inl h
theorem held_ready1 {fuel : Nat} {a : Act} {l : List Oper} {L : Array Bool} (i : Nat) (hr : Region.ready .any l.toArray L = [i]) (ho : l.toArray[i]? = some (l.getD i noOper)) (hw : Region.wanted (l.getD i noOper) (yielded l.toArray a.tmps) = true)
    (h : (l.getD i noOper).wp P a w (fun a' w' => S w' ∧ wpAnyH P .any l.toArray Q S fuel (L.setIfInBounds i true) a' w') Q) : wpAnyH P .any l.toArray Q S (fuel + 1) L a w :=
  wpAnyH_all hr (by simp) fun j hj => by
    obtain rfl : j = i := by simpa using hj
    exact held_op ho hw h
theorem held_ready2 {fuel : Nat} {a : Act} {l : List Oper} {L : Array Bool} (i k : Nat) (hr : Region.ready .any l.toArray L = [i, k]) (ho : l.toArray[i]? = some (l.getD i noOper)) (hw : Region.wanted (l.getD i noOper) (yielded l.toArray a.tmps) = true)
    (ho' : l.toArray[k]? = some (l.getD k noOper)) (hw' : Region.wanted (l.getD k noOper) (yielded l.toArray a.tmps) = true)
    (h : (l.getD i noOper).wp P a w (fun a' w' => S w' ∧ wpAnyH P .any l.toArray Q S fuel (L.setIfInBounds i true) a' w') Q)
    (h' : (l.getD k noOper).wp P a w (fun a' w' => S w' ∧ wpAnyH P .any l.toArray Q S fuel (L.setIfInBounds k true) a' w') Q) : wpAnyH P .any l.toArray Q S (fuel + 1) L a w :=
  wpAnyH_all hr (by simp) fun j hj => by
    rcases List.mem_cons.1 hj with e | e
    · subst e
      exact held_op ho hw h
    · obtain rfl : j = k := by simpa using e
      exact held_op ho' hw' h'
end

end Go.Proofs.YtkncfhhiookgdabGreatFmt
