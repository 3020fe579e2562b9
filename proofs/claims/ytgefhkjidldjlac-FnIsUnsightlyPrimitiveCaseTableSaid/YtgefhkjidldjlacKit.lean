/-
  What the walks of this seat are told of the arguments that came in, and small lemmas that name no program.
-/
import Derived.Test.YtgefhkjidldjlacProg
import Derived.WalkKit
import Derived.WalkLawsBesides
import Derived.WalkSpells
import Derived.OpenShut
import Derived.Below
import Derived.Outline
import Derived.Deep.Light
import Derived.Deep.QuietTactic
import Derived.BigQuiet
import Derived.RegionTactic
import Derived.BigRegion
import Derived.Deep.RegionWith
import Derived.Deep.RegionHeld3
import Derived.Deep.DeepCutAuto
import Derived.Deep.LoopGhost
import Derived.Deep.DeepFit
import Derived.Deep.DeepMust
import Derived.Lib.Hide
import Derived.Handy
import Derived.StillTailTactics
namespace Go.Proofs.Ytgefhkjidldjlac
open Go.RowKit

def IsRow (k : IntKind) (w : World) (a : Option Addr) (len cap : Nat) (zs : List Int) : Prop :=
  (a = none ∧ len = 0 ∧ cap = 0 ∧ zs = []) ∨
  ∃ x, a = some x ∧ len ≤ cap ∧ cap ≤ maxLen ∧ zs.length = cap ∧ (∀ i, i < zs.length → w.cell? (x.add i) = some (.int k (zs.getD i 0))) ∧ ∀ n ∈ zs, (Lit.int k n).wf = true

def IsBools (w : World) (a : Option Addr) (len cap : Nat) (B : Nat → Bool) : Prop :=
  (a = none ∧ len = 0 ∧ cap = 0) ∨ ∃ x, a = some x ∧ len ≤ cap ∧ cap ≤ maxLen ∧ ∀ i, i < cap → w.cell? (x.add i) = some (.bool (B i))

def IsStrs (w : World) (a : Option Addr) (len cap : Nat) (S : Nat → ByteArray) : Prop :=
  (a = none ∧ len = 0 ∧ cap = 0) ∨ ∃ x, a = some x ∧ len ≤ cap ∧ cap ≤ maxLen ∧ ∀ i, i < cap → w.cell? (x.add i) = some (.string (S i)) ∧ (S i).size ≤ maxLen

def IsRows (k : IntKind) (w : World) (a : Option Addr) (len cap : Nat) (A : Nat → Option Addr) (L C : Nat → Nat) (Z : Nat → List Int) : Prop :=
  (a = none ∧ len = 0 ∧ cap = 0) ∨ ∃ x, a = some x ∧ len ≤ cap ∧ cap ≤ maxLen ∧ ∀ r, r < cap → w.cell? (x.add r) = some (.slice (A r) (L r) (C r)) ∧ L r ≤ C r ∧ C r ≤ maxLen ∧ (Z r).length = C r ∧
    (∀ n ∈ Z r, (Lit.int k n).wf = true) ∧ (A r = none → C r = 0) ∧ ∀ a', A r = some a' → ∀ c, c < C r → w.cell? (a'.add c) = some (.int k ((Z r).getD c 0))

theorem ret_bool {a b : Bool} (h : a = b) : Ending.returned (.bool a) = .returned (.bool b) := by rw [h]
theorem ret_int {k : IntKind} {a b : Int} (h : a = b) : Ending.returned (.int k a) = .returned (.int k b) := by rw [h]

theorem bcell {W w1 : World} (hb : Below W.heap.size W w1) : (∀ b o, b < W.heap.size → w1.cell? ⟨b, o, none⟩ = W.cell? ⟨b, o, none⟩) ∧ (∀ b o, b < W.heap.size → w1.frozen? ⟨b, o, none⟩ = W.frozen? ⟨b, o, none⟩) :=
  ⟨fun b o h => hb.cell (p := ⟨b, o, none⟩) h, fun b o h => hb.frozen (p := ⟨b, o, none⟩) h⟩

end Go.Proofs.Ytgefhkjidldjlac
