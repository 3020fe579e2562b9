import Derived.Test.YtailfkedgdlldaaKit
import Derived.Test.YtailfkedgdlldaaUsA
import Derived.Test.YtailfkedgdlldaaBig
namespace Go.Proofs.Ytailfkedgdlldaa
open Go.ChangeShapes Go.WideShapes Go.ChangeAt Go.RowKit
set_option linter.unusedVariables false
set_option maxRecDepth 100000
set_option maxHeartbeats 2000000

theorem info83 : (Try.prog.info? 83).map (fun i => (i.zero, i.size, i.bytes)) = some (some (.agg #[.int .u32 0, .int .u32 0, .bool false]), 3, 12) := by kernel_rfl
theorem keyS : KeysLike Try.prog 9 IsStr := keys_str Try.underlying9
theorem zero225 (w : World) : (zeroValue 225).run Try.prog w = .ok (.agg #[.int .u32 0, .int .u32 0, .int .i32 0]) w := by kernel_rfl

/-- What is fixed: the names, the kinds, what the module's members say of a symbol's name. -/
structure Fx where
  n : Nat
  top : Bool
  nm : Nat → ByteArray
  kd : Nat → Int
  ma : Nat → Int
  mb : Nat → Int

/-- Does the entry of symbol k stand at the top? -/
def Fx.isTop (x : Fx) (k : Nat) : Bool := x.top || ((x.kd k == 1 || x.kd k == 2) && (x.ma k == 1 && x.mb k == k))

def symCells (s : ByteArray) (kd : Int) : List Value := [.pointer none, .string s, .int .u32 0, .int .u32 0, .int .u32 0, .int .u32 0, .int .u32 0, .int .u16 0, .int .u8 kd, .int .u8 0]

/-- The entries' cells. -/
def ent (x : Fx) (L : List Nat) : List Value := L.flatMap fun (k : Nat) => [.int .u32 1, .int .u32 k, .bool (x.isTop k)]

theorem ent_snoc (x : Fx) (L : List Nat) (k : Nat) : ent x (L ++ [k]) = ent x L ++ [.int .u32 1, .int .u32 k, .bool (x.isTop k)] := by simp [ent]
theorem ent_len (x : Fx) (L : List Nat) : (ent x L).length = L.length * 3 := by
  induction L with
  | nil => rfl
  | cons k L ih =>
    have : ent x (k :: L) = [.int .u32 1, .int .u32 k, .bool (x.isTop k)] ++ ent x L := rfl
    rw [this, List.length_append, ih]
    simp
    omega
theorem ent_get (x : Fx) : ∀ (L : List Nat) (i k : Nat), L[i]? = some k → (ent x L)[i * 3]? = some (.int .u32 1) ∧ (ent x L)[i * 3 + 1]? = some (.int .u32 k) ∧ (ent x L)[i * 3 + 2]? = some (.bool (x.isTop k))
  | [], i, k, h => by simp at h
  | y :: L, 0, k, h => by
    simp at h
    subst h
    exact ⟨rfl, rfl, rfl⟩
  | y :: L, i + 1, k, h => by
    have := ent_get x L i k (by simpa using h)
    have e : ent x (y :: L) = .int .u32 1 :: .int .u32 y :: .bool (x.isTop y) :: ent x L := rfl
    rw [e, show (i + 1) * 3 = i * 3 + 1 + 1 + 1 by omega]
    simpa using this

/-- What stays: the symbols, the scopes, the members. -/
structure Sc (w : World) (S cur mod mm : Nat) (x : Fx) : Prop where
  symR : ∃ cs, RowAt w S cs 70 ∧ ∀ i, i < x.n → ∀ j v, (symCells (x.nm i) (x.kd i))[j]? = some v → cs[i * 10 + j]? = some v
  modR : ∃ cs, RowAt w mod cs 205 ∧ cs[3]? = some (.map (some mm))
  curR : if x.top then cur = mod else cur ≠ mod ∧ ∃ cs, RowAt w cur cs 205
  mapR : ∃ F cnt, MapIs w mm IsStr F cnt ∧ ∀ k, k < x.n → ∃ c : Int, (F (.string (x.nm k))).getD (.agg #[.int .u32 0, .int .u32 0, .int .i32 0]) = .agg #[.int .u32 (x.ma k), .int .u32 (x.mb k), .int .i32 c]

/-- A parser over it whose part's list holds the entries. -/
structure Pa (w : World) (p q S cur mod : Nat) (B : Nat) (v : Value) (x : Fx) (L : List Nat) : Prop where
  row : ∃ cs, RowAt w p cs 195 ∧ cs[104]? = some (.pointer (some ⟨cur, 0, none⟩)) ∧ cs[105]? = some (.pointer (some ⟨q, 0, none⟩)) ∧ cs[106]? = some (.slice (some ⟨S, 0, none⟩) x.n x.n) ∧ cs[187]? = some (.pointer (some ⟨mod, 0, none⟩))
  part : ∃ cs, RowAt w q cs 49 ∧ 3 < cs.size ∧ cs[3]? = some v
  own : w.ownsRow B 83 3 v L.length (ent x L)

theorem Sc.kept {w w' : World} {S cur mod mm : Nat} {x : Fx} (h : Sc w S cur mod mm x) (hk : ∀ j, j = S ∨ j = cur ∨ j = mod ∨ j = mm → w'.heap[j]? = w.heap[j]?) : Sc w' S cur mod mm x := by
  obtain ⟨⟨c1, s1, s2⟩, ⟨c2, m1, m2⟩, hc, ⟨F, cnt, f1, f2⟩⟩ := h
  refine ⟨⟨c1, s1.kept (hk _ (.inl rfl)), s2⟩, ⟨c2, m1.kept (hk _ (.inr (.inr (.inl rfl)))), m2⟩, ?_, ⟨F, cnt, f1.kept (hk _ (.inr (.inr (.inr rfl)))), f2⟩⟩
  split at hc
  · rename_i e; rw [if_pos e]; exact hc
  · rename_i e
    rw [if_neg e]
    obtain ⟨a, cs, b⟩ := hc
    exact ⟨a, cs, b.kept (hk _ (.inr (.inl rfl)))⟩
theorem Sc.lt {w : World} {S cur mod mm : Nat} {x : Fx} (h : Sc w S cur mod mm x) : S < w.heap.size ∧ cur < w.heap.size ∧ mod < w.heap.size ∧ mm < w.heap.size := by
  obtain ⟨⟨c1, s1, s2⟩, ⟨c2, m1, m2⟩, hc, ⟨F, cnt, f1, f2⟩⟩ := h
  refine ⟨s1.lt, ?_, m1.lt, f1.lt⟩
  split at hc
  · rw [hc]; exact m1.lt
  · obtain ⟨a, cs, b⟩ := hc
    exact b.lt
theorem Sc.later {w w' : World} {S cur mod mm : Nat} {x : Fx} (h : Sc w S cur mod mm x) (hb : Below w.heap.size w w') : Sc w' S cur mod mm x := by
  obtain ⟨h1, h2, h3, h4⟩ := h.lt
  exact h.kept fun j hj => hb.block j (by rcases hj with rfl | rfl | rfl | rfl <;> assumption)

theorem own83 {w : World} {B n g : Nat} {v : Value} {xs : List Value} (h : w.ownsRow B 83 3 v n xs) (hg : v.ownBlock = some g) : (∃ cs, RowAt w g cs 83) ∧ B ≤ g := by
  rcases h.2 with ⟨rfl, _⟩ | ⟨g', cap, cur, rfl, hb, hh, _⟩
  · cases hg
  · have : g' = g := by simpa [Value.ownBlock] using hg
    subst this
    exact ⟨⟨cur, hh⟩, hb⟩
theorem own_kept {w w' : World} {B n : Nat} {e : TypeId} {size : Nat} {v : Value} {xs : List Value} (h : w.ownsRow B e size v n xs) (hk : ∀ g, v.ownBlock = some g → w'.heap[g]? = w.heap[g]?) : w'.ownsRow B e size v n xs := by
  obtain ⟨h1, h2⟩ := h
  refine ⟨h1, ?_⟩
  rcases h2 with h2 | ⟨g, cap, cur, hv, hb, hh, h3⟩
  · exact .inl h2
  · exact .inr ⟨g, cap, cur, hv, hb, (hk g (by rw [hv]; rfl)).trans hh, h3⟩

theorem Pa.later {w w' : World} {p q S cur mod B : Nat} {v : Value} {x : Fx} {L : List Nat} (h : Pa w p q S cur mod B v x L) (hb : Below w.heap.size w w') : Pa w' p q S cur mod B v x L := by
  obtain ⟨⟨cs, r1, r2⟩, ⟨ds, d1, d2⟩, ho⟩ := h
  exact ⟨⟨cs, r1.below hb r1.lt, r2⟩, ⟨ds, d1.below hb d1.lt, d2⟩, own_kept ho fun g hg => by
    obtain ⟨⟨es, e1⟩, _⟩ := own83 ho hg
    exact hb.block g e1.lt⟩

/-- What a recording turns: the part, and what lies from B on. -/
def RX (q B : Nat) : Nat → Prop := fun j => j = q ∨ B ≤ j

end Go.Proofs.Ytailfkedgdlldaa
