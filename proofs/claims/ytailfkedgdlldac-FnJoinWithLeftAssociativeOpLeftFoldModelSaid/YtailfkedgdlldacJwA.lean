import Derived.Test.YtailfkedgdlldacKit
import Derived.Test.YtailfkedgdlldacRow
import Derived.Test.YtailfkedgdlldacAs
namespace Go.Proofs.Ytailfkedgdlldac
open Go.ChangeShapes Go.WideShapes Go.ChangeAt Go.RowKit
set_option linter.unusedVariables false
set_option maxRecDepth 100000
set_option maxHeartbeats 2000000

theorem RowAt.newAt {W : World} {b : Nat} {cs : Array Value} {t : TypeId} (hb : b = W.heap.size) : RowAt (W.alloc (.cells cs t)) b cs t := by
  subst hb
  exact RowAt.new _ _ _
theorem RowAt.ne {w : World} {a b : Nat} {cs ds : Array Value} {s t : TypeId} (h : RowAt w a cs s) (g : RowAt w b ds t) (hn : s ≠ t) : a ≠ b := by
  intro e
  subst e
  unfold RowAt at h g
  rw [h] at g
  injection g with g
  injection g with _ g
  exact hn g

/-- Every binary node from block B on stays as it is. -/
def K5 (B : Nat) (w w' : World) : Prop := ∀ g cs, B ≤ g → RowAt w g cs 53 → RowAt w' g cs 53
theorem K5.refl (B : Nat) (w : World) : K5 B w w := fun _ _ _ h => h
theorem K5.trans {B : Nat} {w w' w'' : World} (h : K5 B w w') (g : K5 B w' w'') : K5 B w w'' := fun a cs l r => g a cs l (h a cs l r)
theorem K5.mono {B C : Nat} {w w' : World} (h : K5 B w w') (hBC : B ≤ C) : K5 C w w' := fun a cs l r => h a cs (Nat.le_trans hBC l) r
theorem K5.later {B : Nat} {w w' : World} (hb : Below w.heap.size w w') : K5 B w w' := fun _ _ _ h => h.below hb h.lt
theorem K5.box {B : Nat} {w : World} {R : Nat} {cs : Array Value} {t : TypeId} (h : RowAt w R cs t) (ht : t ≠ 53) (o : Nat) (v : Value) : K5 B w (w.setCell ⟨R, o, none⟩ v) := fun _ _ _ g => g.set_other (g.ne h (fun e => ht e.symm)) o v
theorem K5.low {B : Nat} {w : World} {R : Nat} (h : R < B) (o : Nat) (v : Value) : K5 B w (w.setCell ⟨R, o, none⟩ v) := fun a _ l g => g.set_other (fun e => by omega) o v
theorem K5.grown {B : Nat} {w w' : World} {g : Option Nat} (h : w.grownBy w' g) (ht : ∀ j, g = some j → ∃ cs, RowAt w j cs 27) : K5 B w w' := fun a cs _ r => by
  refine (h.block a r.lt fun e => ?_).trans r
  obtain ⟨ds, d⟩ := ht a e.symm
  exact r.ne d (by decide) rfl

/-- A tree of the law: number leaves and binary nodes, each by its block and its location. -/
inductive Tr
  | leaf (p : Nat) (l : Int)
  | bin (p : Nat) (l : Int) (o : Int) (g : Bool) (a b : Tr)

def dB (p : Nat) : Value := .iface 50 (.pointer (some ⟨p, 0, none⟩))
def dN (p : Nat) : Value := .iface 47 (.pointer (some ⟨p, 0, none⟩))
def Tr.d : Tr → Value
  | .leaf p _ => dN p
  | .bin p _ _ _ _ _ => dB p
def Tr.l : Tr → Int
  | .leaf _ l => l
  | .bin _ l _ _ _ _ => l
def Tr.sz : Tr → Nat
  | .leaf _ _ => 1
  | .bin _ _ _ _ a b => a.sz + b.sz + 1
/-- The tree lies in memory. -/
def Tr.At (w : World) : Tr → Prop
  | .leaf p _ => True
  | .bin p l o g a b => RowAt w p #[a.d, .int .i32 a.l, b.d, .int .i32 b.l, .int .u8 o, .bool g] 53 ∧ a.At w ∧ b.At w

theorem Tr.sz_pos (t : Tr) : 1 ≤ t.sz := by
  cases t <;> simp [Tr.sz]

theorem Tr.At.kept {w w' : World} : ∀ {t : Tr}, t.At w → K5 0 w w' → t.At w'
  | .leaf _ _, h, _ => h
  | .bin _ _ _ _ _ _, ⟨h1, h2, h3⟩, hb => ⟨hb _ _ (Nat.zero_le _) h1, h2.kept hb, h3.kept hb⟩
theorem Tr.d_one (t : Tr) : t.d.oneCell' = true := by
  cases t <;> rfl

/-- The operands of a tree as seen through the nodes of the operator. -/
def Tr.leaves (op : Int) : Tr → List (Value × Int)
  | .leaf p l => [(dN p, l)]
  | .bin p l o g a b => if o = op then a.leaves op ++ b.leaves op else [(dB p, l)]

theorem Tr.leaves_len (op : Int) : ∀ t : Tr, (t.leaves op).length ≤ t.sz
  | .leaf _ _ => by simp [Tr.leaves, Tr.sz]
  | .bin _ _ o _ a b => by
    have h1 := a.leaves_len op
    have h2 := b.leaves_len op
    simp only [Tr.leaves, Tr.sz]
    split
    · simp; omega
    · simp
theorem Tr.leaves_pos (op : Int) : ∀ t : Tr, 1 ≤ (t.leaves op).length
  | .leaf _ _ => by simp [Tr.leaves]
  | .bin _ _ o _ a b => by
    have h1 := a.leaves_pos op
    simp only [Tr.leaves]
    split
    · simp; omega
    · simp

/-- What an operand is made of: a pointer's node and a location. -/
def isNode (x : Value × Int) : Prop := ∃ p, x.1 = dN p ∨ x.1 = dB p
theorem Tr.isNode : ∀ t : Tr, isNode (t.d, t.l)
  | .leaf p _ => ⟨p, .inl rfl⟩
  | .bin p _ _ _ _ _ => ⟨p, .inr rfl⟩
theorem Tr.leaves_node (op : Int) : ∀ (t : Tr) (x : Value × Int), x ∈ t.leaves op → Ytailfkedgdlldac.isNode x
  | .leaf p _, x, h => by
    simp [Tr.leaves] at h
    subst h
    exact ⟨p, .inl rfl⟩
  | .bin p l o _ a b, x, h => by
    simp only [Tr.leaves] at h
    split at h
    · rcases List.mem_append.1 h with h | h
      · exact a.leaves_node op x h
      · exact b.leaves_node op x h
    · simp at h
      subst h
      exact ⟨p, .inr rfl⟩

/-- x is ((A op l1) op ..) op lm over new nodes at A's place, from block B on. -/
inductive FoldIs (B : Nat) (w : World) (op : Int) (A : Value × Int) : List (Value × Int) → Value × Int → Prop
  | nil : FoldIs B w op A [] A
  | snoc {L : List (Value × Int)} {x r : Value × Int} {p : Nat} : FoldIs B w op A L x → B ≤ p → RowAt w p #[x.1, .int .i32 x.2, r.1, .int .i32 r.2, .int .u8 op, .bool false] 53 → FoldIs B w op A (L ++ [r]) (dB p, A.2)

section
variable {B : Nat} {w w' : World} {op : Int} {A x : Value × Int} {L : List (Value × Int)}
theorem FoldIs.kept (h : FoldIs B w op A L x) (hb : K5 B w w') : FoldIs B w' op A L x := by
  induction h with
  | nil => exact .nil
  | snoc _ hp hr ih => exact .snoc ih hp (hb _ _ hp hr)
theorem FoldIs.mono {C : Nat} (h : FoldIs B w op A L x) (hC : C ≤ B) : FoldIs C w op A L x := by
  induction h with
  | nil => exact .nil
  | snoc _ hp hr ih => exact .snoc ih (Nat.le_trans hC hp) hr
theorem FoldIs.loc (h : FoldIs B w op A L x) : x.2 = A.2 := by
  cases h <;> rfl
theorem FoldIs.node (h : FoldIs B w op A L x) (hA : isNode A) : isNode x := by
  cases h with
  | nil => exact hA
  | snoc _ _ _ => exact ⟨_, .inr rfl⟩

/-- The value is no comma node. -/
def NotComma (w : World) (x : Value × Int) : Prop :=
  (∃ p, x.1 = dN p) ∨ ∃ p cs o, x.1 = dB p ∧ RowAt w p cs 53 ∧ cs[4]? = some (.int .u8 o) ∧ o ≠ 36

theorem NotComma.kept (h : NotComma w x) (hb : K5 0 w w') : NotComma w' x := by
  rcases h with h | ⟨p, cs, o, h1, h2, h3⟩
  · exact .inl h
  · exact .inr ⟨p, cs, o, h1, hb _ _ (Nat.zero_le _) h2, h3⟩
theorem FoldIs.notComma (h : FoldIs B w op A L x) (hop : op ≠ 36) (hA : NotComma w A) : NotComma w x := by
  cases h with
  | nil => exact hA
  | snoc _ _ hr => exact .inr ⟨_, _, op, rfl, hr, rfl, hop⟩
end

/-- The join of the tree and the operands: the tree's commas kept, below them the fold; the new nodes from block B on. -/
def JoinIs (B : Nat) (w : World) (op : Int) : Tr → List (Value × Int) → Value × Int → Prop
  | .leaf p l, L, y => FoldIs B w op (dN p, l) L y
  | .bin p l o g a b, L, y => if o = 36 then ∃ q x, y = (dB q, l) ∧ B ≤ q ∧ RowAt w q #[a.d, .int .i32 a.l, x.1, .int .i32 x.2, .int .u8 36, .bool g] 53 ∧ JoinIs B w op b L x else FoldIs B w op (dB p, l) L y

theorem JoinIs.kept {B : Nat} {w w' : World} {op : Int} (hb : K5 B w w') : ∀ {t : Tr} {L : List (Value × Int)} {y : Value × Int}, JoinIs B w op t L y → JoinIs B w' op t L y
  | .leaf _ _, _, _, h => FoldIs.kept h hb
  | .bin _ _ o _ a b, L, y, h => by
    unfold JoinIs at h ⊢
    by_cases e : o = 36
    · rw [if_pos e] at h ⊢
      obtain ⟨q, x, h1, h2, h3, h4⟩ := h
      exact ⟨q, x, h1, h2, hb _ _ h2 h3, JoinIs.kept hb h4⟩
    · rw [if_neg e] at h ⊢
      exact FoldIs.kept h hb
theorem JoinIs.mono {B C : Nat} {w : World} {op : Int} (hC : C ≤ B) : ∀ {t : Tr} {L : List (Value × Int)} {y : Value × Int}, JoinIs B w op t L y → JoinIs C w op t L y
  | .leaf _ _, _, _, h => FoldIs.mono h hC
  | .bin _ _ o _ a b, L, y, h => by
    unfold JoinIs at h ⊢
    by_cases e : o = 36
    · rw [if_pos e] at h ⊢
      obtain ⟨q, x, h1, h2, h3, h4⟩ := h
      exact ⟨q, x, h1, Nat.le_trans hC h2, h3, JoinIs.mono hC h4⟩
    · rw [if_neg e] at h ⊢
      exact FoldIs.mono h hC
theorem JoinIs.node {B : Nat} {w : World} {op : Int} : ∀ {t : Tr} {L : List (Value × Int)} {y : Value × Int}, JoinIs B w op t L y → isNode y
  | .leaf p _, _, _, h => FoldIs.node h ⟨p, .inl rfl⟩
  | .bin p _ o _ a b, L, y, h => by
    unfold JoinIs at h
    by_cases e : o = 36
    · rw [if_pos e] at h
      obtain ⟨q, x, h1, _⟩ := h
      exact ⟨q, .inr (by rw [h1])⟩
    · rw [if_neg e] at h
      exact FoldIs.node h ⟨p, .inr rfl⟩

/-- A slice's cells out of its operands. -/
def flat (L : List (Value × Int)) : List Value := L.flatMap fun x => [x.1, .int .i32 x.2]
theorem flat_snoc (L : List (Value × Int)) (x : Value × Int) : flat (L ++ [x]) = flat L ++ [x.1, .int .i32 x.2] := by simp [flat]
theorem flat_get : ∀ (L : List (Value × Int)) (i : Nat) (x : Value × Int), L[i]? = some x → (flat L)[i * 2]? = some x.1 ∧ (flat L)[i * 2 + 1]? = some (.int .i32 x.2)
  | [], i, x, h => by simp at h
  | y :: L, 0, x, h => by
    simp at h
    subst h
    exact ⟨rfl, rfl⟩
  | y :: L, i + 1, x, h => by
    have := flat_get L i x (by simpa using h)
    have e : flat (y :: L) = y.1 :: .int .i32 y.2 :: flat L := rfl
    rw [e, show (i + 1) * 2 = i * 2 + 1 + 1 by omega]
    simpa using this

end Go.Proofs.Ytailfkedgdlldac
