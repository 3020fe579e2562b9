/-
  A map known by what it holds at each key, and how many entries it has; its laws at the operations; no program named.
-/
import Derived.Test.YtncmpgoggagdbadDoorRow
import Derived.MapKept
import Derived.Carry
import Derived.OwnWalk
import Derived.Maps.OwnSet
namespace Go.Proofs.YtncmpgoggagdbadDoor
open Go.RowKit Go.MapKept
open Classical

/-- What the look for a key comes to. -/
def FindIs (v : Value) (es : List MapEntry) (r : Option (Nat × Value)) : Prop :=
  (r = none ∧ ∀ x ∈ es, x.key ≠ v) ∨ ∃ i x, r = some (i, x.val) ∧ es[i]? = some x ∧ x.key = v

/-- Keys of the kind S are told apart as values are. -/
structure KeysLike (P : Program) (k : TypeId) (S : Value → Prop) : Prop where
  check : ∀ e v w, S v → (Instr.checkKey e 10000 k v).run P w = .ok () w
  find : ∀ v es w, S v → (∀ x ∈ es, S x.key) → ∃ r, (Instr.findKey k v es).run P w = .ok r w ∧ FindIs v es r
  bits : ∀ v, S v → Instr.sameBits 10000 v v = true

def IsStr (v : Value) : Prop := ∃ s, v = .string s
def IsPair (v : Value) : Prop := ∃ a b, v = .agg #[.int .u32 a, .int .u32 b]
def IsLoc (v : Value) : Prop := ∃ a, v = .agg #[.int .i32 a]

theorem keys_str {P : Program} {k : TypeId} (hk : P.underlying k = some .string) : KeysLike P k IsStr where
  check := by
    rintro e v w ⟨s, rfl⟩
    exact run_checkKey hk (show IsKey .string (.string s) from trivial) e 9999
  find := by
    rintro v es w ⟨s, rfl⟩ hes
    rcases findNow_spec (d := .string) (k := .string s) trivial es 0 (fun x hx => by obtain ⟨s', e⟩ := hes x hx; rw [e]; trivial) with ⟨h1, h2⟩ | ⟨j, e, h1, h2, h3⟩
    · exact ⟨none, run_findKey hk h1, .inl ⟨rfl, h2⟩⟩
    · exact ⟨_, run_findKey hk h1, .inr ⟨0 + j, e, rfl, by simpa using h2, h3⟩⟩
  bits := by
    rintro v ⟨s, rfl⟩
    simp [Instr.sameBits, bytes_beq]

/-- A look that asks the comparison. -/
theorem findAsking_is {P : Program} {k : TypeId} {S : Value → Prop} (heq : ∀ u v w, S u → S v → (Op.equal k u v).run P w = .ok (decide (u = v)) w) (v : Value) (w : World) (hv : S v) :
    ∀ (es : List MapEntry) (i : Nat), (∀ x ∈ es, S x.key) → ((Instr.findAsking k v es i).run P w = .ok none w ∧ ∀ x ∈ es, x.key ≠ v) ∨ ∃ j x, (Instr.findAsking k v es i).run P w = .ok (some (i + j, x.val)) w ∧ es[j]? = some x ∧ x.key = v
  | [], _, _ => .inl ⟨rfl, by simp⟩
  | e :: es, i, h => by
    have h1 := heq v e.key w hv (h e (.head _))
    by_cases he : v = e.key
    · have h2 : (Op.equal k v e.key).run P w = .ok true w := by rw [h1, decide_eq_true he]
      exact .inr ⟨0, e, by simp only [Instr.findAsking, Sem.run_bind, h2, Result.andThen_ok, if_true, Sem.run_pure, Nat.add_zero], rfl, he.symm⟩
    · rcases findAsking_is heq v w hv es (i + 1) (fun x hx => h x (.tail _ hx)) with ⟨h2, h3⟩ | ⟨j, x, h2, h3, h4⟩
      · refine .inl ⟨by simp [Instr.findAsking, h1, he, h2], fun x hx => ?_⟩
        cases hx with
        | head => exact fun e' => he e'.symm
        | tail _ hx => exact h3 x hx
      · exact .inr ⟨j + 1, x, by simp [Instr.findAsking, h1, he, h2]; omega, by simpa using h3, h4⟩

theorem keys_asking {P : Program} {k : TypeId} {fs : Array Field} {S : Value → Prop} (hk : P.underlying k = some (.struct fs)) (hagg : ∀ v, S v → ∃ cs, v = .agg cs) (hcheck : ∀ e v w, S v → (Instr.checkKey e 10000 k v).run P w = .ok () w)
    (heq : ∀ u v w, S u → S v → (Op.equal k u v).run P w = .ok (decide (u = v)) w) (hbits : ∀ v, S v → Instr.sameBits 10000 v v = true) : KeysLike P k S where
  check := hcheck
  bits := hbits
  find := by
    intro v es w hv hes
    obtain ⟨cs, rfl⟩ := hagg v hv
    cases es with
    | nil => exact ⟨none, by simp [Instr.findKey, run_underlying hk, Instr.findNow], .inl ⟨rfl, by simp⟩⟩
    | cons e es =>
      have hn : Instr.findNow (.struct fs) (.agg cs) (e :: es) 0 = none := by simp [Instr.findNow, Instr.sameNow]
      have e0 : (Instr.findKey k (.agg cs) (e :: es)).run P w = (Instr.findAsking k (.agg cs) (e :: es) 0).run P w := by simp [Instr.findKey, run_underlying hk, hn]
      rcases findAsking_is heq (.agg cs) w hv (e :: es) 0 hes with ⟨h2, h3⟩ | ⟨j, x, h2, h3, h4⟩
      · exact ⟨none, e0.trans h2, .inl ⟨rfl, h3⟩⟩
      · exact ⟨_, e0.trans h2, .inr ⟨0 + j, x, rfl, by simpa using h3, h4⟩⟩

theorem run_part_int {P : Program} {t : TypeId} {q : IntKind} (ht : P.underlying t = some (.int q)) (w : World) (cs : Array Value) (i : Nat) (a : Int) (h : cs[i]? = some (.int q a)) : (part t cs i).run P w = .ok (.int q a) w := by
  simp [part, isAgg, run_underlying ht, h]

theorem keys_pair {P : Program} {k : TypeId} {f0 f1 : Field} (hk : P.underlying k = some (.struct #[f0, f1])) (h0 : P.underlying f0.type = some (.int .u32)) (h1 : P.underlying f1.type = some (.int .u32)) (n0 : (f0.name ≠ "_") = True) (n1 : (f1.name ≠ "_") = True)
    (o0 : f0.offset = 0) (o1 : f1.offset = 1) (hs : P.stoodInHeld k = false) : KeysLike P k IsPair := by
  refine keys_asking hk (by rintro v ⟨a, b, rfl⟩; exact ⟨_, rfl⟩) ?_ ?_ ?_
  · rintro e v w ⟨a, b, rfl⟩
    have p0 := run_part_int h0 w #[.int .u32 a, .int .u32 b] 0 a rfl
    have p1 := run_part_int h1 w #[.int .u32 a, .int .u32 b] 1 b rfl
    have c0 := run_checkKey (w := w) (k := .int .u32 a) h0 (show IsKey (.int .u32) (.int .u32 a) from rfl) e 9998
    have c1 := run_checkKey (w := w) (k := .int .u32 b) h1 (show IsKey (.int .u32) (.int .u32 b) from rfl) e 9998
    show (Instr.checkKey e (9999 + 1) k _).run P w = _
    rw [Instr.checkKey]
    simp [run_underlying hk, n0, n1, o0, o1, p0, p1, c0, c1]
  · rintro u v w ⟨a, b, rfl⟩ ⟨c, d, rfl⟩
    have p0 := run_part_int h0 w #[.int .u32 a, .int .u32 b] 0 a rfl
    have p1 := run_part_int h1 w #[.int .u32 a, .int .u32 b] 1 b rfl
    have q0 := run_part_int h0 w #[.int .u32 c, .int .u32 d] 0 c rfl
    have q1 := run_part_int h1 w #[.int .u32 c, .int .u32 d] 1 d rfl
    have e0 := run_equalIn_int w 9998 f0.type .u32 .u32 a c h0
    have e1 := run_equalIn_int w 9998 f1.type .u32 .u32 b d h1
    have hd : decide ((Value.agg #[.int .u32 a, .int .u32 b]) = .agg #[.int .u32 c, .int .u32 d]) = (a == c && b == d) := by
      rw [Bool.eq_iff_iff]
      simp
    rw [hd]
    show (Op.equalIn (9999 + 1) k _ _).run P w = _
    rw [Op.equalIn]
    cases hac : (a == c) <;> cases hbd : (b == d) <;> simp [run_underlying hk, n0, n1, o0, o1, p0, p1, q0, q1, e0, e1, hs, hac, hbd]
  · rintro v ⟨a, b, rfl⟩
    simp [Instr.sameBits]

/-- What a list of entries holds at a key. -/
noncomputable def lookE : List MapEntry → Value → Option Value
  | [], _ => none
  | e :: es, v => if e.key = v then some e.val else lookE es v

theorem lookE_none {v : Value} : ∀ {es : List MapEntry}, (∀ x ∈ es, x.key ≠ v) → lookE es v = none
  | [], _ => rfl
  | e :: es, h => by
    rw [lookE, if_neg (h e (.head _))]
    exact lookE_none fun x hx => h x (.tail _ hx)

theorem lookE_at {v : Value} : ∀ {es : List MapEntry} {i : Nat} {x : MapEntry}, es.Pairwise (fun a b => a.key ≠ b.key) → es[i]? = some x → x.key = v → lookE es v = some x.val
  | [], _, _, _, h, _ => by simp at h
  | e :: es, 0, x, _, h, hv => by
    simp at h
    subst h
    rw [lookE, if_pos hv]
  | e :: es, i + 1, x, hp, h, hv => by
    rw [List.pairwise_cons] at hp
    simp at h
    rw [lookE, if_neg (fun e' => hp.1 x (List.mem_of_getElem? h) (e'.trans hv.symm))]
    exact lookE_at hp.2 h hv

/-- Block b of w is a map with keys of the kind S that holds F, n entries in all. -/
def MapIs (w : World) (b : Nat) (S : Value → Prop) (F : Value → Option Value) (n : Nat) : Prop :=
  ∃ es clk, w.heap[b]? = some (.map es clk) ∧ (∀ x ∈ es.toList, S x.key) ∧ es.toList.Pairwise (fun a b => a.key ≠ b.key) ∧ (∀ v, S v → lookE es.toList v = F v) ∧ es.size = n

noncomputable def putF (F : Value → Option Value) (v x : Value) : Value → Option Value := fun u => if u = v then some x else F u
noncomputable def delF (F : Value → Option Value) (v : Value) : Value → Option Value := fun u => if u = v then none else F u
theorem putF_same (F : Value → Option Value) (v x : Value) : putF F v x v = some x := if_pos rfl
theorem putF_other (F : Value → Option Value) {v u : Value} (x : Value) (h : u ≠ v) : putF F v x u = F u := if_neg h
theorem delF_same (F : Value → Option Value) (v : Value) : delF F v v = none := if_pos rfl
theorem delF_other (F : Value → Option Value) {v u : Value} (h : u ≠ v) : delF F v u = F u := if_neg h

section
variable {P : Program} {w w' : World} {b n : Nat} {S : Value → Prop} {F : Value → Option Value}

theorem MapIs.lt (h : MapIs w b S F n) : b < w.heap.size := by
  obtain ⟨es, clk, h, _⟩ := h
  exact (Array.getElem?_eq_some_iff.1 h).1
theorem MapIs.kept (h : MapIs w b S F n) (hk : w'.heap[b]? = w.heap[b]?) : MapIs w' b S F n := by
  obtain ⟨es, clk, h, r⟩ := h
  exact ⟨es, clk, hk.trans h, r⟩
theorem MapIs.below {B : Nat} (h : MapIs w b S F n) (hb : Below B w w') (hlt : b < B) : MapIs w' b S F n := h.kept (hb.block b hlt)
theorem MapIs.alloc (h : MapIs w b S F n) (o : Obj) : MapIs (w.alloc o) b S F n := h.kept (Below.heap_alloc _ _ _ h.lt)
theorem MapIs.notRow (h : MapIs w b S F n) (o : Nat) : w.cell? ⟨b, o, none⟩ = none := by
  obtain ⟨es, clk, h, _⟩ := h
  simp [World.cell?, h]
theorem MapIs.setCell (h : MapIs w b S F n) {g o : Nat} {v : Value} (hc : w.cell? ⟨g, o, none⟩ = some v) (x : Value) : MapIs (w.setCell ⟨g, o, none⟩ x) b S F n := by
  refine h.kept (Below.heap_setCell _ _ _ _ fun e => ?_)
  subst e
  have := h.notRow o
  rw [this] at hc
  cases hc
theorem MapIs.setOther (h : MapIs w b S F n) {g o : Nat} (hne : b ≠ g) (x : Value) : MapIs (w.setCell ⟨g, o, none⟩ x) b S F n := h.kept (Below.heap_setCell _ _ _ _ hne)
theorem MapIs.congr {G : Value → Option Value} (h : MapIs w b S F n) (e : ∀ v, S v → F v = G v) : MapIs w b S G n := by
  obtain ⟨es, clk, h1, h2, h3, h4, h5⟩ := h
  exact ⟨es, clk, h1, h2, h3, fun v hv => (h4 v hv).trans (e v hv), h5⟩
theorem MapIs.new (w : World) (S : Value → Prop) : MapIs (w.alloc (.map #[] 0)) w.heap.size S (fun _ => none) 0 :=
  ⟨#[], 0, heap_alloc_new w _, by simp, by simp, fun v _ => rfl, rfl⟩
theorem MapIs.newAt {W : World} (S : Value → Prop) (hb : b = W.heap.size) : MapIs (W.alloc (.map #[] 0)) b S (fun _ => none) 0 := by
  subst hb
  exact MapIs.new _ _

/-- What a look gives back, with 'ok' or without. -/
def lookRes (c : Bool) (r : Option Value) (z : Value) : Value :=
  match c, r with
  | true, some v => .tuple #[v, .bool true]
  | true, none => .tuple #[z, .bool false]
  | false, some v => v
  | false, none => z

theorem MapIs.look {t k e : TypeId} {z v : Value} (h : MapIs w b S F n) (K : KeysLike P k S) (ht : P.underlying t = some (.map k e)) (hz : (zeroValue e).run P w = .ok z w) (hv : S v) (c : Bool) :
    (Instr.lookup t (.map (some b)) v c).run P w = .ok (lookRes c (F v) z) w := by
  obtain ⟨es, clk, hb, hS, hp, hF, hn⟩ := h
  obtain ⟨r, hr, hi⟩ := K.find v es.toList w hv hS
  have hc := K.check es.isEmpty v w hv
  rw [← hF v hv]
  simp only [Instr.lookup, Sem.run_bind, run_underlying ht, Result.andThen_ok, MapKept.run_getObj_map hb, Sem.run_pure, hc, hr]
  rcases hi with ⟨rfl, h1⟩ | ⟨i, x, rfl, h1, h2⟩
  · rw [lookE_none h1]
    simp only [Sem.run_bind, hz, Result.andThen_ok, Sem.run_pure]
    cases c <;> rfl
  · rw [lookE_at hp h1 h2]
    simp only [Sem.run_pure, Result.andThen_ok]
    cases c <;> rfl

theorem look_nil {t k e : TypeId} {z v : Value} (K : KeysLike P k S) (ht : P.underlying t = some (.map k e)) (hz : (zeroValue e).run P w = .ok z w) (hv : S v) (c : Bool) :
    (Instr.lookup t (.map none) v c).run P w = .ok (lookRes c none z) w := by
  have hc := K.check (#[] : Array MapEntry).isEmpty v w hv
  obtain ⟨r, hr, hi⟩ := K.find v [] w hv (by simp)
  have : r = none := by
    rcases hi with ⟨rfl, _⟩ | ⟨i, x, rfl, h1, h2⟩
    · rfl
    · simp at h1
  subst this
  simp only [Instr.lookup, Sem.run_bind, run_underlying ht, Result.andThen_ok, Sem.run_pure, hc, hr, hz]
  cases c <;> rfl

theorem MapIs.len {t k e ty : TypeId} (h : MapIs w b S F n) (ht : P.underlying t = some (.map k e)) : (Builtin.len_ #[t] ty #[.map (some b)]).run P w = .ok (.int .i64 n) w := by
  obtain ⟨es, clk, hb, _, _, _, hn⟩ := h
  subst hn
  simp [Builtin.len_, run_underlying ht, MapKept.run_getObj_map hb]
  rfl

/-- Only the map of block b has turned. -/
structure Turned (b : Nat) (w w' : World) : Prop where
  os : w'.os = w.os
  tape : w'.tape = w.tape
  output : w'.output = w.output
  size : w'.heap.size = w.heap.size
  block : ∀ j, j ≠ b → w'.heap[j]? = w.heap[j]?

theorem Turned.grown (h : Turned b w w') : w.grownBy w' (some b) := ⟨h.os, h.tape, h.output, by rw [h.size]; exact Nat.le_refl _, fun j _ hne => h.block j (fun e => hne (by rw [e]))⟩
theorem Turned.below {B : Nat} (h : Turned b w w') (hB : B ≤ b) : Below B w w' := ⟨h.os, h.tape, h.output, by rw [h.size]; exact Nat.le_refl _, fun j hj => h.block j (by omega)⟩
theorem Turned.cell (h : Turned b w w') {g o : Nat} (hg : g ≠ b) : w'.cell? ⟨g, o, none⟩ = w.cell? ⟨g, o, none⟩ := World.cell?_of_block (w := w) (h.block g hg)
theorem Turned.frozen (h : Turned b w w') {g o : Nat} (hg : g ≠ b) : w'.frozen? ⟨g, o, none⟩ = w.frozen? ⟨g, o, none⟩ := World.frozen?_of_block (w := w) (h.block g hg)
theorem Turned.row {g : Nat} {cs : Array Value} {T : TypeId} (h : Turned b w w') (hr : RowAt w g cs T) (hg : g ≠ b) : RowAt w' g cs T := (h.block g hg).trans hr
theorem Turned.map {g m : Nat} {S' : Value → Prop} {G : Value → Option Value} (h : Turned b w w') (hr : MapIs w g S' G m) (hg : g ≠ b) : MapIs w' g S' G m := hr.kept (h.block g hg)

theorem lookE_append {v : Value} : ∀ {es : List MapEntry} {e : MapEntry}, lookE es v = none → lookE (es ++ [e]) v = if e.key = v then some e.val else none
  | [], e, _ => rfl
  | x :: es, e, h => by
    rw [lookE] at h
    by_cases hx : x.key = v
    · rw [if_pos hx] at h; cases h
    · rw [if_neg hx] at h
      rw [List.cons_append, lookE, if_neg hx]
      exact lookE_append h
theorem lookE_append_some {v y : Value} : ∀ {es : List MapEntry} {e : MapEntry}, lookE es v = some y → lookE (es ++ [e]) v = some y
  | [], e, h => by cases h
  | x :: es, e, h => by
    rw [List.cons_append, lookE]
    rw [lookE] at h
    by_cases hx : x.key = v
    · rw [if_pos hx] at h ⊢; exact h
    · rw [if_neg hx] at h ⊢; exact lookE_append_some h
theorem lookE_set {v y u : Value} : ∀ {es : List MapEntry} {i : Nat} {e : MapEntry} {f : MapEntry → MapEntry}, es.Pairwise (fun a b => a.key ≠ b.key) → es[i]? = some e → e.key = v → (f e).key = v → (f e).val = y → lookE (es.modify i f) u = if u = v then some y else lookE es u
  | [], _, _, _, _, h, _, _, _ => by simp at h
  | x :: es, 0, e, f, hp, h, hv, hf, hy => by
    simp at h
    subst h
    rw [List.modify_zero_cons, lookE, lookE, hf, hv, hy]
    by_cases hu : u = v
    · rw [if_pos hu.symm, if_pos hu]
    · rw [if_neg (fun e => hu e.symm), if_neg hu, if_neg (fun e => hu e.symm)]
  | x :: es, i + 1, e, f, hp, h, hv, hf, hy => by
    rw [List.pairwise_cons] at hp
    simp at h
    rw [List.modify_succ_cons, lookE, lookE, lookE_set hp.2 h hv hf hy]
    have hxv : x.key ≠ v := fun e' => hp.1 e (List.mem_of_getElem? h) (e'.trans hv.symm)
    by_cases hx : x.key = u
    · rw [if_pos hx, if_pos hx, if_neg (fun e' => hxv (hx.trans e'))]
    · rw [if_neg hx, if_neg hx]

theorem MapIs.update {t k e : TypeId} {v x : Value} (h : MapIs w b S F n) (K : KeysLike P k S) (ht : P.underlying t = some (.map k e)) (hv : S v) :
    ∃ w', (Instr.mapUpdate t (.map (some b)) v x).run P w = .ok () w' ∧ MapIs w' b S (putF F v x) (if (F v).isSome then n else n + 1) ∧ Turned b w w' := by
  obtain ⟨es, clk, hb, hS, hp, hF, hn⟩ := h
  have hlt : b < w.heap.size := (Array.getElem?_eq_some_iff.1 hb).1
  obtain ⟨r, hr, hi⟩ := K.find v es.toList w hv hS
  have hc := K.check false v w hv
  have hturn : ∀ o : Obj, Turned b w { w with heap := w.heap.setIfInBounds b o } := fun o => ⟨rfl, rfl, rfl, by simp, fun j hj => by simp [Ne.symm hj]⟩
  rcases hi with ⟨rfl, h1⟩ | ⟨i, y, rfl, h1, h2⟩
  · refine ⟨{ w with heap := w.heap.setIfInBounds b (.map (es.push { key := v, val := x, born := clk }) (clk + 1)) }, ?_, ⟨es.push { key := v, val := x, born := clk }, clk + 1, by simp [hlt], ?_, ?_, ?_, ?_⟩, hturn _⟩
    · simp only [Instr.mapUpdate, Sem.run_bind, run_underlying ht, Result.andThen_ok, MapKept.run_getObj_map hb, hc, hr, run_setObj_map _ hb]
    · intro y hy
      simp at hy
      rcases hy with hy | rfl
      · exact hS y (by simpa using hy)
      · exact hv
    · rw [Array.toList_push, List.pairwise_append]
      exact ⟨hp, by simp, fun a ha c hc => by simp at hc; subst hc; exact h1 a ha⟩
    · intro u hu
      rw [Array.toList_push]
      unfold putF
      by_cases e : u = v
      · subst e
        rw [lookE_append (lookE_none h1), if_pos rfl, if_pos rfl]
      · rw [if_neg e, ← hF u hu]
        cases hl : lookE es.toList u with
        | none => rw [lookE_append hl, if_neg (fun e' => e e'.symm)]
        | some y => rw [lookE_append_some hl]
    · rw [← hF v hv, lookE_none h1]
      simp [hn]
  · have hk : Instr.sameBits 10000 ((es[i]?.map (·.key)).getD v) v = true := by
      have : es[i]? = some y := by simpa using h1
      rw [this]
      simp only [Option.map_some, Option.getD_some, h2]
      exact K.bits v hv
    refine ⟨{ w with heap := w.heap.setIfInBounds b (.map (es.modify i fun e => { e with key := v, val := x }) clk) }, ?_, ⟨es.modify i fun e => { e with key := v, val := x }, clk, by simp [hlt], ?_, ?_, ?_, ?_⟩, hturn _⟩
    · simp only [Instr.mapUpdate, Sem.run_bind, run_underlying ht, Result.andThen_ok, MapKept.run_getObj_map hb, hc, hr, Instr.keyThatStays, hk, if_true, Sem.run_pure, run_setObj_map _ hb]
    · intro z hz
      rw [Array.toList_modify] at hz
      obtain ⟨j, hj⟩ := List.mem_iff_getElem?.1 hz
      rw [List.getElem?_modify] at hj
      cases hy : es.toList[j]? with
      | none => rw [hy] at hj; simp at hj
      | some q =>
        rw [hy] at hj
        simp at hj
        subst hj
        split
        · exact hv
        · exact hS q (List.mem_of_getElem? hy)
    · rw [Array.toList_modify]
      have e1 : (es.toList.modify i fun e => { e with key := v, val := x }).map (·.key) = es.toList.map (·.key) := by
        apply List.ext_getElem?
        intro j
        rw [List.getElem?_map, List.getElem?_modify, List.getElem?_map]
        by_cases e : i = j
        · subst e
          rw [h1]
          simp [h2]
        · simp [e]
      refine (List.pairwise_map (f := fun e : MapEntry => e.key) (R := fun a b => a ≠ b)).1 ?_
      rw [e1]
      exact (List.pairwise_map (f := fun e : MapEntry => e.key) (R := fun a b => a ≠ b)).2 hp
    · intro u hu
      rw [Array.toList_modify, lookE_set (y := x) hp h1 h2 rfl rfl, hF u hu]
      rfl
    · rw [← hF v hv, lookE_at hp h1 h2]
      simp [hn]

theorem lookE_erase {u : Value} : ∀ {es : List MapEntry} {i : Nat} {e : MapEntry}, es.Pairwise (fun a b => a.key ≠ b.key) → es[i]? = some e → lookE (es.eraseIdx i) u = if u = e.key then none else lookE es u
  | [], _, _, _, h => by simp at h
  | x :: es, 0, e, hp, h => by
    simp at h
    subst h
    rw [List.pairwise_cons] at hp
    rw [List.eraseIdx_cons_zero, lookE]
    by_cases hu : u = x.key
    · rw [if_pos hu]
      exact lookE_none fun y hy e' => hp.1 y hy (e'.trans hu).symm
    · rw [if_neg hu, if_neg (fun e => hu e.symm)]
  | x :: es, i + 1, e, hp, h => by
    rw [List.pairwise_cons] at hp
    simp at h
    rw [List.eraseIdx_cons_succ, lookE, lookE, lookE_erase hp.2 h]
    have hxe : x.key ≠ e.key := hp.1 e (List.mem_of_getElem? h)
    by_cases hx : x.key = u
    · rw [if_pos hx, if_pos hx, if_neg (fun e' => hxe (hx.trans e'))]
    · rw [if_neg hx, if_neg hx]

theorem MapIs.drop {t k e ty k2 : TypeId} {v : Value} (h : MapIs w b S F n) (K : KeysLike P k S) (ht : P.underlying t = some (.map k e)) (hv : S v) :
    ∃ w', (Builtin.delete_ #[t, k2] ty #[.map (some b), v]).run P w = .ok (.tuple #[]) w' ∧ MapIs w' b S (delF F v) (if (F v).isSome then n - 1 else n) ∧ Turned b w w' := by
  obtain ⟨es, clk, hb, hS, hp, hF, hn⟩ := h
  have hlt : b < w.heap.size := (Array.getElem?_eq_some_iff.1 hb).1
  obtain ⟨r, hr, hi⟩ := K.find v es.toList w hv hS
  have hc := K.check es.isEmpty v w hv
  have hturn : ∀ o : Obj, Turned b w { w with heap := w.heap.setIfInBounds b o } := fun o => ⟨rfl, rfl, rfl, by simp, fun j hj => by simp [Ne.symm hj]⟩
  rcases hi with ⟨rfl, h1⟩ | ⟨i, y, rfl, h1, h2⟩
  · refine ⟨{ w with heap := w.heap.setIfInBounds b (.map es clk) }, ?_, ⟨es, clk, by simp [hlt], hS, hp, ?_, ?_⟩, hturn _⟩
    · simp [Builtin.delete_, run_underlying ht, MapKept.run_getObj_map hb, hc, hr, run_setObj_map _ hb]
    · intro u hu
      unfold delF
      by_cases e : u = v
      · rw [if_pos e, e]; exact lookE_none h1
      · rw [if_neg e]; exact hF u hu
    · rw [← hF v hv, lookE_none h1]
      simp [hn]
  · have hil : i < es.size := by
      have := (List.getElem?_eq_some_iff.1 h1).1
      simpa using this
    refine ⟨{ w with heap := w.heap.setIfInBounds b (.map (es.eraseIdxIfInBounds i) clk) }, ?_, ⟨es.eraseIdxIfInBounds i, clk, by simp [hlt], ?_, ?_, ?_, ?_⟩, hturn _⟩
    · simp [Builtin.delete_, run_underlying ht, MapKept.run_getObj_map hb, hc, hr, run_setObj_map _ hb]
    · intro z hz
      rw [Array.toList_eraseIdxIfInBounds] at hz
      exact hS z (List.mem_of_mem_eraseIdx hz)
    · rw [Array.toList_eraseIdxIfInBounds]
      exact hp.sublist (List.eraseIdx_sublist _ _)
    · intro u hu
      rw [Array.toList_eraseIdxIfInBounds, lookE_erase hp h1, h2, hF u hu]
      rfl
    · rw [← hF v hv, lookE_at hp h1 h2]
      subst hn
      simp [Array.eraseIdxIfInBounds, hil]

theorem wpList_look {ops : Array Oper} {rest : List Oper} {o : Oper} {a : Act} {Q : Exit → Act → World → Prop} (hg : o.guard = none) (m x : Operand) (t : TypeId) (c : Bool) (hop : o.op = Op.lookup t m x c)
    (k e : TypeId) (K : KeysLike P k S) (ht : P.underlying t = some (.map k e)) (z : Value) (hz : (zeroValue e).run P w = .ok z w) (b n : Nat) (F : Value → Option Value) (hm : a.eval m = .map (some b)) (h : MapIs w b S F n) (v : Value) (hx : a.eval x = v) (hv : S v)
    (r : Option Value) (hF : F v = r) (res : Value) (hres : lookRes c r z = res) (hK : wpList P ops Q rest (a.put o.dst res) w) : wpList P ops Q (o :: rest) a w := by
  refine wpList_run (w' := w) (v := res) hg ?_ hK
  have h1 := h.look K ht hz hv c
  rw [hF, hres] at h1
  simp [execOp, hop, hm, hx, h1, Result.andThen]

theorem wpList_put {ops : Array Oper} {rest : List Oper} {o : Oper} {a : Act} {Q : Exit → Act → World → Prop} (hg : o.guard = none) (m x y : Operand) (t : TypeId) (hop : o.op = Op.mapUpdate t m x y)
    (k e : TypeId) (K : KeysLike P k S) (ht : P.underlying t = some (.map k e)) (b n : Nat) (F : Value → Option Value) (hm : a.eval m = .map (some b)) (h : MapIs w b S F n) (v u : Value) (hx : a.eval x = v) (hy : a.eval y = u) (hv : S v)
    (hK : ∀ w', MapIs w' b S (putF F v u) (if (F v).isSome then n else n + 1) → Turned b w w' → wpList P ops Q rest (a.put o.dst undef) w') : wpList P ops Q (o :: rest) a w := by
  refine wpList_plain hg fun K' hK' => ?_
  obtain ⟨w', hrun, r1, r2⟩ := h.update (x := u) K ht hv
  unfold Oper.wp
  simp [execOp, hop, hm, hx, hy, hrun, Result.andThen]
  exact hK' _ _ (hK w' r1 r2)

theorem wpList_drop {ops : Array Oper} {rest : List Oper} {o : Oper} {a : Act} {Q : Exit → Act → World → Prop} (hg : o.guard = none) (m x : Operand) (t k2 : TypeId) (hop : o.op = Op.call { callee := Callee.builtin Builtin.delete, args := #[m, x], argTypes := #[t, k2] })
    (k e : TypeId) (K : KeysLike P k S) (ht : P.underlying t = some (.map k e)) (b n : Nat) (F : Value → Option Value) (hm : a.eval m = .map (some b)) (h : MapIs w b S F n) (v : Value) (hx : a.eval x = v) (hv : S v)
    (hK : ∀ w', MapIs w' b S (delF F v) (if (F v).isSome then n - 1 else n) → Turned b w w' → wpList P ops Q rest (a.put o.dst (.tuple #[])) w') : wpList P ops Q (o :: rest) a w := by
  refine wpList_plain hg fun K' hK' => ?_
  obtain ⟨w', hrun, r1, r2⟩ := h.drop (ty := o.type) (k2 := k2) K ht hv
  unfold Oper.wp
  simp [execOp, hop, resolve, invoke, builtin, hm, hx, hrun, Result.andThen]
  exact hK' _ _ (hK w' r1 r2)
end

end Go.Proofs.YtncmpgoggagdbadDoor
