import Derived.Test.YtjngpnijogfmdacKit
import Derived.Test.YtjngpnijogfmdacTiL
namespace Go.Proofs.Ytjngpnijogfmdac.fnTryToInsertOptionalChainMarksExactlyTheTail
open Go.ChangeShapes Go.WideShapes Go.ChangeAt Go.RowKit
set_option linter.unusedVariables false
set_option maxRecDepth 100000
set_option maxHeartbeats 2000000

/-- The steps, the newest first. -/
def tops (f : Nat → St) : Nat → List St
  | 0 => []
  | k + 1 => f k :: tops f k
theorem steps_Lk (f : Nat → St) (b : Nat → Nat) : ∀ k, steps (Lk f b k) = tops f k
  | 0 => rfl
  | k + 1 => by
    show f k :: steps (Lk f b k) = f k :: tops f k
    rw [steps_Lk f b k]
theorem tops_len (f : Nat → St) : ∀ k, (tops f k).length = k
  | 0 => rfl
  | k + 1 => by rw [tops, List.length_cons, tops_len f k]
theorem tops_eq {f g : Nat → St} : ∀ {k : Nat}, tops f k = tops g k ↔ ∀ i, i < k → f i = g i
  | 0 => ⟨fun _ i hi => by omega, fun _ => rfl⟩
  | k + 1 => by
    rw [tops, tops, List.cons.injEq, tops_eq (k := k)]
    constructor
    · rintro ⟨h1, h2⟩ i hi
      by_cases e : i = k
      · subst e; exact h1
      · exact h2 i (by omega)
    · exact fun h => ⟨h k (by omega), fun i hi => h i (by omega)⟩
theorem tops_eq2 {f g : Nat → St} {p k : Nat} : tops f p = tops g k ↔ p = k ∧ ∀ i, i < p → f i = g i := by
  constructor
  · intro h
    have : p = k := by rw [← tops_len f p, h, tops_len]
    subst this
    exact ⟨rfl, tops_eq.1 h⟩
  · rintro ⟨rfl, h⟩
    exact tops_eq.2 h

def mk (p i : Nat) : Int := if i < p then 0 else if i = p then 1 else 2
def Mk (f : Nat → St) (b : Nat → Nat) (p : Nat) : Nat → List Nde
  | 0 => []
  | k + 1 => (f k, b k, mk p k) :: Mk f b p k
theorem Mk_low (f : Nat → St) (b : Nat → Nat) (p : Nat) : ∀ {k : Nat}, k ≤ p → Mk f b p k = Lk f b k
  | 0, _ => rfl
  | k + 1, h => by
    rw [Mk, Lk, Mk_low f b p (by omega)]
    have : mk p k = 0 := if_pos (by omega)
    rw [this]

/-- The law of the marks. -/
theorem marks (r r' : Int) (fT f : Nat → St) (b : Nat → Nat) (p : Nat) : ∀ k, tryM (here r r' (tops fT p)) (Lk f b k) = if r = r' ∧ p < k ∧ ∀ i, i < p → fT i = f i then some (Mk f b p k) else none
  | 0 => by
    rw [if_neg (by omega)]
    rfl
  | k + 1 => by
    rw [Lk, tryM]
    rw [steps_Lk, marks r r' fT f b p k]
    by_cases hh : here r r' (tops fT p) (tops f k) = true
    · rw [if_pos hh]
      have h1 : r = r' ∧ tops fT p = tops f k := of_decide_eq_true hh
      obtain ⟨hr, ht⟩ := h1
      obtain ⟨hp, hm⟩ := tops_eq2.1 ht
      subst hp
      rw [if_pos ⟨hr, by omega, hm⟩, Mk, Mk_low f b p (Nat.le_refl _)]
      have : mk p p = 1 := by unfold mk; rw [if_neg (by omega), if_pos rfl]
      rw [this]
    · rw [if_neg hh]
      have h1 : ¬ (r = r' ∧ tops fT p = tops f k) := fun h => hh (decide_eq_true h)
      by_cases hw : r = r' ∧ p < k ∧ ∀ i, i < p → fT i = f i
      · rw [if_pos hw, if_pos ⟨hw.1, by omega, hw.2.2⟩, Mk]
        have : mk p k = 2 := by unfold mk; rw [if_neg (by omega), if_neg (by omega)]
        rw [this]
        rfl
      · rw [if_neg hw, if_neg]
        · rfl
        · rintro ⟨e1, e2, e3⟩
          by_cases e : p = k
          · exact h1 ⟨e1, tops_eq2.2 ⟨e, e3⟩⟩
          · exact hw ⟨e1, by omega, e3⟩

/-- Do the first p steps match? -/
def Pm (fT f : Nat → St) (p : Nat) (w : World) (e : Ending) (w' : World) : Prop := ∃ q, e = .returned (.bool q) ∧ (q = true ↔ ∀ i, i < p → fT i = f i) ∧ w = w'
theorem pre10 (ak : Option Addr) (n : Nat) (z : Nat → Int) (an : Option Addr) (nn : Nat) (S : Nat → ByteArray) (bk : Option Addr) (m : Nat) (y : Nat → Int) (bn : Option Addr) (mm : Nat) (S' : Nat → ByteArray) (w : World) (hpm : n ≤ m) (hn : n ≤ 4096) (hm : m ≤ 4096) (hnn : nn ≤ 65536) (hmm : mm ≤ 65536)
    (hz : K8s w ak n z) (hs : Strs w an nn S) (hy : K8s w bk m y) (hs' : Strs w bn mm S') :
    Calls Try.prog 10 #[.slice ak n n, .slice an nn nn, .slice bk m m, .slice bn mm mm, .int .i64 n] w (Pm (stp z nn S) (stp y mm S') n w) := by
  have HK := Lib.hid (fun i (hi : i < n) => key15 ak n z an nn S bk m y bn mm S' i w hi (by omega) hn hm hnn hmm hz hs hy hs')
  obtain ⟨f, hf⟩ : ∃ f, stp z nn S = f := ⟨_, rfl⟩
  obtain ⟨g, hg⟩ : ∃ g, stp y mm S' = g := ⟨_, rfl⟩
  rw [hf, hg] at HK
  rw [hf, hg]
  clear hz hs hy hs' hf hg
  go_enter Try.func10, Try.ntmps10
  go_wp2_with fail
  go_loop [11] (fun v11 => ∃ k : Nat, k ≤ n ∧ v11 = .int .i64 k ∧ ∀ i, i < k → f i = g i) (fun v11 => n - (intOf v11).toNat)
  case atStart => exact ⟨0, Nat.zero_le _, rfl, fun i hi => by omega⟩
  case round =>
    obtain ⟨k, hk, rfl, hs⟩ := hrel
    by_cases hlt : k < n
    · have HS := Lib.hid hs
      obtain ⟨D, hD⟩ : ∃ D, decide (f k = g k) = D := ⟨_, rfl⟩
      have HKk := Lib.hid (hD ▸ HK.out k hlt)
      have HD := Lib.hid hD
      clear hs hD
      go_wp2_with fail
      refine HKk.out.mono ?_
      rintro e w1 ⟨rfl, rfl⟩
      cases D
      · go_wp2_with fail
        go_ret
        exact ⟨false, rfl, ⟨(fun e => by cases e), fun h => absurd (h k hlt) (of_decide_eq_false HD.out)⟩, rfl⟩
      · go_wp2_with fail
        go_round
        case rel =>
          refine ⟨k + 1, by omega, by go_num, fun i hi => ?_⟩
          by_cases e : i = k
          · subst e; exact of_decide_eq_true HD.out
          · exact HS.out i (by omega)
        case measure => simp [intOf]; omega
    · obtain rfl : k = n := by omega
      go_wp2_with fail
      go_ret
      exact ⟨true, rfl, ⟨fun _ => hs, fun _ => rfl⟩, rfl⟩

end Go.Proofs.Ytjngpnijogfmdac.fnTryToInsertOptionalChainMarksExactlyTheTail
