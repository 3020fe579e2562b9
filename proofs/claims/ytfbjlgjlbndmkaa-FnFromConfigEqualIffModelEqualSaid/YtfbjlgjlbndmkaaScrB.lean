/-
  More moves for a great drawn region: what is not wanted, the beginning, the end.
-/
import Derived.Test.YtfbjlgjlbndmkaaScript
namespace Go.Proofs.Ytfbjlgjlbndmkaa
open Go.RowKit
/-- The regions of a body by their numbers. -/
def regsOf : Code → List (Nat × List Oper)
  | .region id o _ => [(id, o.toList)]
  | .seq a b => regsOf a ++ regsOf b
  | .cond _ a b => regsOf a ++ regsOf b
  | .block _ b => regsOf b
  | .loop b => regsOf b
  | .scope b => regsOf b
  | .rangeFunc _ _ a b => regsOf a ++ regsOf b
  | _ => []
def rgAt (f : Func) (k : Nat) : List Oper := (((f.body.map regsOf).getD []).lookup k).getD []
section
variable {P : Program} {ops : Array Oper} {w : World} {Q : Exit → Act → World → Prop} {S : World → Prop}
/-- An operation whose guard is not met. -/
theorem held_skip {fuel : Nat} {a a' : Act} {l : List Oper} (i N : Nat) {d : Option Nat} (ho : l.toArray[i]? = some (l.getD i noOper)) (hd : (l.getD i noOper).dst = d) (hsel : Region.noSelect l.toArray = true) (hok : stepOk l.toArray N i = true)
    (hQ : ∀ c a w, Q (.panic c) (a.put d undef) w → Q (.panic c) a w) (hw : Region.wanted (l.getD i noOper) (yielded l.toArray a.tmps) = false) (hS : S w) (ha : a.put d undef = a')
    (h : wpAnyH P .any l.toArray Q S fuel (Lk N (i + 1)) a' w) : wpAnyH P .any l.toArray Q S (fuel + 1) (Lk N i) a w := by
  subst ha
  subst hd
  simp only [stepOk, Bool.and_eq_true] at hok
  exact wpAnyH_take ho hsel hok.2 hok.1 hQ (.inr ⟨hw, rfl⟩) hS (by rw [Lk_succ]; exact h)
/-- A frame: 'vals' (the first i of them) laid over 'base' from slot s on. -/
def frAct (base vals : List Value) (s i : Nat) : Act := ⟨(base.take s ++ (vals.take i ++ base.drop (s + i))).toArray, []⟩
/-- The beginning of a drawn region whose walk goes by a script. -/
theorem held_begin {id N : Nat} {l : List Oper} {a a' : Act} (hm : P.follows .mixedOrders = true) (hN : l.toArray.size = N) (ha : a = a') (hS : S w.drew) (h : S w.drew → wpAnyH P .any l.toArray Q S N (Lk N 0) a' w.drew) : (Code.region id l.toArray true).wp P Q a w := by
  subst ha
  refine wp_region_held_drew (S := S) hm hS (fun hS => ?_)
  rw [hN, ← Lk_zero]
  exact h hS
theorem held_done {N : Nat} {l : List Oper} {a a' : Act} (hr : Region.ready .any l.toArray (Lk N N) = []) (ha : a = a') (h : Q .normal a' w) : wpAnyH P .any l.toArray Q S 0 (Lk N N) a w := by
  subst ha
  exact ⟨hr, h⟩
end
end Go.Proofs.Ytfbjlgjlbndmkaa
