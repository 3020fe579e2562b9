import Derived.Test.YtjngpnijogfmdacKit
import Derived.Test.YtjngpnijogfmdacTiE
namespace Go.Proofs.Ytjngpnijogfmdac.fnTryToInsertOptionalChainMarksExactlyTheTail
open Go.ChangeShapes Go.WideShapes Go.ChangeAt Go.RowKit
set_option linter.unusedVariables false
set_option maxRecDepth 100000
set_option maxHeartbeats 2000000

/-- A node: its step, its block, its mark. -/
abbrev Nde := St × Nat × Int
def kindS : St → Nat
  | .dot _ => 42
  | .idx _ => 43
  | .call => 44
def kindOf : List Nde → Nat
  | [] => 47
  | x :: _ => kindS x.1
def blk (ub : Nat) : List Nde → Nat
  | [] => ub
  | x :: _ => x.2.1
def steps (L : List Nde) : List St := L.map (·.1)

/-- The row of a node over what it stands on. -/
def nodeRow (w : World) (T v : Nat) : Nde → Prop
  | (.dot nm, u, f) => RowAt w u (dotRow T v nm f) 54
  | (.idx nm, u, f) => ∃ b, RowAt w u (idxRow T v b f) 61 ∧ Lit8 w b nm
  | (.call, u, f) => RowAt w u (callRow T v f) 65

/-- A chain with its marks; each node lies above what it stands on. -/
def MC (w : World) (r : Int) (ub : Nat) : List Nde → Prop
  | [] => RowAt w ub (idRow r) 51
  | x :: s => nodeRow w (kindOf s) (blk ub s) x ∧ ub < x.2.1 ∧ (∀ y ∈ s, y.2.1 < x.2.1) ∧ MC w r ub s

def clean : List Nde → Prop
  | [] => True
  | x :: s => x.2.2 = 0 ∧ clean s

theorem MC.chain {w : World} {r : Int} {ub : Nat} : ∀ {L : List Nde}, MC w r ub L → clean L → Chain w r (steps L) (kindOf L) (blk ub L)
  | [], h, _ => ⟨rfl, h⟩
  | (.dot nm, u, f) :: s, ⟨h, _, _, hs⟩, ⟨hf, hc⟩ => by
    have hf' : f = 0 := hf
    subst hf'
    exact ⟨rfl, _, _, h, MC.chain hs hc⟩
  | (.idx nm, u, f) :: s, ⟨⟨b, h, hl⟩, _, _, hs⟩, ⟨hf, hc⟩ => by
    have hf' : f = 0 := hf
    subst hf'
    exact ⟨rfl, _, _, b, h, hl, MC.chain hs hc⟩
  | (.call, u, f) :: s, ⟨h, _, _, hs⟩, ⟨hf, hc⟩ => by
    have hf' : f = 0 := hf
    subst hf'
    exact ⟨rfl, _, _, h, MC.chain hs hc⟩

/-- Only block u has turned; it is a row of type T. -/
theorem Lit8_set {w : World} {s u j : Nat} {nm : ByteArray} {ds : Array Value} {T : TypeId} {v : Value} (h : Lit8 w s nm) (hu : RowAt w u ds T) (h1 : T ≠ 59) (h2 : T ≠ 67) : Lit8 (w.setCell ⟨u, j, none⟩ v) s nm := by
  obtain ⟨R, cs, a1, a2, a3⟩ := h
  exact ⟨R, cs, a1.set_other (a1.diff hu (fun e => h1 e.symm)) _ _, a2.set_other (a2.diff hu (fun e => h2 e.symm)) _ _, a3⟩
theorem Lit8_below {w w1 : World} {s : Nat} {nm : ByteArray} (h : Lit8 w s nm) (hb : Below w.heap.size w w1) : Lit8 w1 s nm := by
  obtain ⟨R, cs, a1, a2, a3⟩ := h
  exact ⟨R, cs, a1.below hb a1.lt, a2.below hb a2.lt, a3⟩

def nodeT : St → Nat
  | .dot _ => 54
  | .idx _ => 61
  | .call => 65
theorem nodeRow_row {w : World} {T v : Nat} : ∀ {x : Nde}, nodeRow w T v x → ∃ cs, RowAt w x.2.1 cs (nodeT x.1)
  | (.dot _, _, _), h => ⟨_, h⟩
  | (.idx _, _, _), ⟨_, h, _⟩ => ⟨_, h⟩
  | (.call, _, _), h => ⟨_, h⟩
theorem nodeRow_set {w : World} {T v u j : Nat} {y : Value} {ds : Array Value} {E : TypeId} (hu : RowAt w u ds E) (h1 : E ≠ 59) (h2 : E ≠ 67) : ∀ {x : Nde}, nodeRow w T v x → x.2.1 ≠ u → nodeRow (w.setCell ⟨u, j, none⟩ y) T v x
  | (.dot _, _, _), h, hn => RowAt.set_other h hn _ _
  | (.idx _, _, _), ⟨b, h, hl⟩, hn => ⟨b, h.set_other hn _ _, Lit8_set hl hu h1 h2⟩
  | (.call, _, _), h, hn => RowAt.set_other h hn _ _
theorem nodeRow_below {w w1 : World} {T v : Nat} (hb : Below w.heap.size w w1) : ∀ {x : Nde}, nodeRow w T v x → nodeRow w1 T v x
  | (.dot _, _, _), h => RowAt.below h hb (RowAt.lt h)
  | (.idx _, _, _), ⟨b, h, hl⟩ => ⟨b, h.below hb h.lt, Lit8_below hl hb⟩
  | (.call, _, _), h => RowAt.below h hb (RowAt.lt h)
theorem MC_below {w w1 : World} {r : Int} {ub : Nat} (hb : Below w.heap.size w w1) : ∀ {L : List Nde}, MC w r ub L → MC w1 r ub L
  | [], h => RowAt.below h hb (RowAt.lt h)
  | _ :: _, ⟨h, h1, h2, hs⟩ => ⟨nodeRow_below hb h, h1, h2, MC_below hb hs⟩
theorem MC_set {w : World} {r : Int} {ub u j : Nat} {y : Value} {ds : Array Value} {E : TypeId} (hu : RowAt w u ds E) (h1 : E ≠ 59) (h2 : E ≠ 67) (hub : ub ≠ u) : ∀ {L : List Nde}, MC w r ub L → (∀ y ∈ L, y.2.1 ≠ u) → MC (w.setCell ⟨u, j, none⟩ y) r ub L
  | [], h, _ => RowAt.set_other h hub _ _
  | _ :: _, ⟨h, q1, q2, hs⟩, hn => ⟨nodeRow_set hu h1 h2 h (hn _ (.head _)), q1, q2, MC_set hu h1 h2 hub hs (fun y hy => hn y (.tail _ hy))⟩

/-- Where the mark of a node lies. -/
def markAt : St → Nat
  | .dot _ => 4
  | .idx _ => 5
  | .call => 4
theorem nodeRow_mark {w : World} {T v : Nat} (f : Int) : ∀ {x : Nde}, nodeRow w T v x → nodeRow (w.setCell ⟨x.2.1, markAt x.1, none⟩ (.int .u8 f)) T v (x.1, x.2.1, f)
  | (.dot _, _, _), h => RowAt.set h 4 _
  | (.idx _, _, _), ⟨b, h, hl⟩ => ⟨b, h.set 5 _, Lit8_set hl h (by decide) (by decide)⟩
  | (.call, _, _), h => RowAt.set h 4 _
theorem MC_mark {w : World} {r : Int} {ub : Nat} {x : Nde} {s : List Nde} (f : Int) (h : MC w r ub (x :: s)) : MC (w.setCell ⟨x.2.1, markAt x.1, none⟩ (.int .u8 f)) r ub ((x.1, x.2.1, f) :: s) := by
  obtain ⟨h1, h2, h3, h4⟩ := h
  obtain ⟨cs, hr⟩ := nodeRow_row h1
  have e1 : nodeT x.1 ≠ 59 := by cases x.1 <;> simp [nodeT]
  have e2 : nodeT x.1 ≠ 67 := by cases x.1 <;> simp [nodeT]
  exact ⟨nodeRow_mark f h1, h2, h3, MC_set hr e1 e2 (by omega) h4 (fun y hy => by have := h3 y hy; omega)⟩

/-- The marks that a try leaves. -/
def tryM (p : List St → Bool) : List Nde → Option (List Nde)
  | [] => none
  | x :: s => if p (steps s) then some ((x.1, x.2.1, 1) :: s) else (tryM p s).map fun s' => (x.1, x.2.1, 2) :: s'
theorem tryM_blk {p : List St → Bool} {ub : Nat} : ∀ {L L' : List Nde}, tryM p L = some L' → kindOf L' = kindOf L ∧ blk ub L' = blk ub L ∧ (∀ y ∈ L', ∃ z ∈ L, z.2.1 = y.2.1)
  | [], _, h => by cases h
  | x :: s, L', h => by
    unfold tryM at h
    split at h
    · cases h
      exact ⟨rfl, rfl, fun y hy => by
        rcases List.mem_cons.1 hy with rfl | hy
        · exact ⟨x, .head _, rfl⟩
        · exact ⟨y, .tail _ hy, rfl⟩⟩
    · cases ht : tryM p s with
      | none => rw [ht] at h; cases h
      | some s' =>
        rw [ht] at h
        cases h
        obtain ⟨_, _, h3⟩ := tryM_blk (ub := ub) ht
        exact ⟨rfl, rfl, fun y hy => by
          rcases List.mem_cons.1 hy with rfl | hy
          · exact ⟨x, .head _, rfl⟩
          · obtain ⟨z, hz, e⟩ := h3 y hy
            exact ⟨z, .tail _ hz, e⟩⟩

/-- Nothing but the blocks of X has turned, new ones apart. -/
structure Frm (X : Nat → Prop) (w w' : World) : Prop where
  os : w'.os = w.os
  tape : w'.tape = w.tape
  output : w'.output = w.output
  size : w.heap.size ≤ w'.heap.size
  block : ∀ j, j < w.heap.size → ¬ X j → w'.heap[j]? = w.heap[j]?
theorem Frm_below {X : Nat → Prop} {w w' : World} (h : Below w.heap.size w w') : Frm X w w' := ⟨h.os, h.tape, h.output, h.size, fun j hj _ => h.block j hj⟩
theorem Frm_trans {X : Nat → Prop} {w w' w'' : World} (h : Frm X w w') (g : Frm X w' w'') : Frm X w w'' :=
  ⟨g.os.trans h.os, g.tape.trans h.tape, g.output.trans h.output, Nat.le_trans h.size g.size, fun j hj hx => (g.block j (Nat.lt_of_lt_of_le hj h.size) hx).trans (h.block j hj hx)⟩
theorem Frm_set {X : Nat → Prop} {w w' : World} (h : Frm X w w') {b o : Nat} {v : Value} (hb : X b) : Frm X w (w'.setCell ⟨b, o, none⟩ v) :=
  ⟨h.os, h.tape, h.output, by simpa using h.size, fun j hj hx => by
    rw [Below.heap_setCell _ _ _ _ (fun e => by subst e; exact hx hb)]
    exact h.block j hj hx⟩
theorem Frm_drewN {X : Nat → Prop} {w w' : World} (h : Frm X w w') (n : Nat) : Frm X w (w'.drewN n) := ⟨h.os, h.tape, h.output, h.size, h.block⟩
theorem Frm_mono {X Y : Nat → Prop} {w w' : World} (h : Frm X w w') (hs : ∀ j, X j → Y j) : Frm Y w w' := ⟨h.os, h.tape, h.output, h.size, fun j hj hx => h.block j hj (fun x => hx (hs j x))⟩

end Go.Proofs.Ytjngpnijogfmdac.fnTryToInsertOptionalChainMarksExactlyTheTail
