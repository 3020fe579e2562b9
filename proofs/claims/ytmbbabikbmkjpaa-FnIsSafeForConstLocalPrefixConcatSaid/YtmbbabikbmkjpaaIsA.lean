import Derived.Test.YtmbbabikbmkjpaaKit
import Derived.Test.YtmbbabikbmkjpaaRec
import Derived.Test.YtmbbabikbmkjpaaAs
namespace Go.Proofs.Ytmbbabikbmkjpaa.fnIsSafeForConstLocalPrefixConcat
open Go.ChangeShapes Go.WideShapes Go.ChangeAt Go.RowKit
set_option linter.unusedVariables false
set_option maxRecDepth 100000
set_option maxHeartbeats 2000000

theorem RowAt.newAt {W : World} {b : Nat} {cs : Array Value} {t : TypeId} (hb : b = W.heap.size) : RowAt (W.alloc (.cells cs t)) b cs t := by
  subst hb
  exact RowAt.new _ _ _
/-- Nothing but the blocks of X has turned. -/
structure FrX (X : Nat → Prop) (w w' : World) : Prop where
  size : w.heap.size ≤ w'.heap.size
  block : ∀ j, j < w.heap.size → ¬ X j → w'.heap[j]? = w.heap[j]?
theorem FrX.below {X : Nat → Prop} {w w' : World} (h : Below w.heap.size w w') : FrX X w w' := ⟨h.size, fun j hj _ => h.block j hj⟩
theorem FrX.refl {X : Nat → Prop} {w : World} : FrX X w w := ⟨Nat.le_refl _, fun _ _ _ => rfl⟩
theorem FrX.trans {X : Nat → Prop} {w w' w'' : World} (h : FrX X w w') (g : FrX X w' w'') : FrX X w w'' := ⟨Nat.le_trans h.size g.size, fun j hj hx => (g.block j (Nat.lt_of_lt_of_le hj h.size) hx).trans (h.block j hj hx)⟩
theorem FrX.mono {X Y : Nat → Prop} {w w' : World} (h : FrX X w w') (hs : ∀ j, j < w.heap.size → X j → Y j) : FrX Y w w' := ⟨h.size, fun j hj hy => h.block j hj fun hx => hy (hs j hj hx)⟩
theorem FrX.set {X : Nat → Prop} {w w' : World} (h : FrX X w w') {b o : Nat} {v : Value} (hb : X b) : FrX X w (w'.setCell ⟨b, o, none⟩ v) :=
  ⟨by simpa using h.size, fun j hj hx => by
    rw [Below.heap_setCell _ _ _ _ (fun e => by subst e; exact hx hb)]
    exact h.block j hj hx⟩
theorem FrX.row {X : Nat → Prop} {w w' : World} (h : FrX X w w') {b : Nat} {cs : Array Value} {t : TypeId} (hr : RowAt w b cs t) (hx : ¬ X b) : RowAt w' b cs t := (h.block b hr.lt hx).trans hr

/-- The answer b comes back; memory only grows. -/
def Ans (b : Bool) (w : World) (e : Ending) (w' : World) : Prop := e = .returned (.bool b) ∧ Below w.heap.size w w'
/-- What the program says of this expression is b, as long as only the blocks of X turn. -/
def Safe (X : Nat → Prop) (w : World) (U u : Nat) (b : Bool) : Prop := ∀ w', FrX X w w' → Calls Try.prog 29 #[.agg #[.iface U (.pointer (some ⟨u, 0, none⟩)), .int .i32 0]] w' (Ans b w')
theorem Safe.kept {X : Nat → Prop} {w w' : World} {U u : Nat} {b : Bool} (h : Safe X w U u b) (hk : FrX X w w') : Safe X w' U u b := fun w'' hk' => h w'' (hk.trans hk')

theorem const_yes (U u : Nat) (w : World) (h : U = 71 ∨ U = 74 ∨ U = 78 ∨ U = 81 ∨ U = 83 ∨ U = 95) : Calls Try.prog 29 #[.agg #[.iface U (.pointer (some ⟨u, 0, none⟩)), .int .i32 0]] w (Ans true w) := by
  rcases h with rfl | rfl | rfl | rfl | rfl | rfl <;> as_aux_lemma =>
    go_enter Try.func29, Try.ntmps29
    go_wp2_with fail
    go_ret
    exact ⟨rfl, by go_grown⟩
theorem const_no (U u : Nat) (w : World) (h : U = 102 ∨ U = 106 ∨ U = 109 ∨ U = 111) : Calls Try.prog 29 #[.agg #[.iface U (.pointer (some ⟨u, 0, none⟩)), .int .i32 0]] w (Ans false w) := by
  rcases h with rfl | rfl | rfl | rfl <;> as_aux_lemma =>
    go_enter Try.func29, Try.ntmps29
    go_wp2_with fail
    go_ret
    exact ⟨rfl, by go_grown⟩
theorem obj_yes (u : Nat) (w : World) (h : w.cell? ⟨u, 0, none⟩ = some (.slice none 0 0)) : Calls Try.prog 29 #[.agg #[.iface 98 (.pointer (some ⟨u, 0, none⟩)), .int .i32 0]] w (Ans true w) := by
  have hl := cell_lt h
  go_enter Try.func29, Try.ntmps29
  go_wp2_with fail
  go_ret
  exact ⟨rfl, by go_grown⟩
theorem obj_no (u : Nat) (a : Option Addr) (w : World) (h : w.cell? ⟨u, 0, none⟩ = some (.slice a 1 1)) : Calls Try.prog 29 #[.agg #[.iface 98 (.pointer (some ⟨u, 0, none⟩)), .int .i32 0]] w (Ans false w) := by
  have hl := cell_lt h
  go_enter Try.func29, Try.ntmps29
  go_wp2_with fail
  go_ret
  exact ⟨rfl, by go_grown⟩
theorem arr_nil (u : Nat) (w : World) (h : w.cell? ⟨u, 0, none⟩ = some (.slice none 0 0)) : Calls Try.prog 29 #[.agg #[.iface 61 (.pointer (some ⟨u, 0, none⟩)), .int .i32 0]] w (Ans true w) := by
  have hl := cell_lt h
  go_enter Try.func29, Try.ntmps29
  go_wp2_with fail
  go_loopw [41] (fun v41 wr => v41 = .int .i64 0 ∧ wr = w.alloc (.cells #[.iface 61 (.pointer (some ⟨u, 0, none⟩)), .int .i32 0] 57)) (fun _ _ => 0)
  case atStart => exact ⟨rfl, rfl⟩
  case round =>
    obtain ⟨rfl, rfl⟩ := hrel
    go_wp2_with fail
    go_ret
    exact ⟨rfl, by go_grown⟩

/-- A row of n expressions: item i is of type T i, at block P i. -/
def Row57 (w : World) (R n : Nat) (T P : Nat → Nat) : Prop := ∃ cs, RowAt w R cs 57 ∧ ∀ i, i < n → cs[i * 2]? = some (.iface (T i) (.pointer (some ⟨P i, 0, none⟩))) ∧ cs[i * 2 + 1]? = some (.int .i32 0)

theorem arr_node (u R n c : Nat) (T P : Nat → Nat) (B : Nat → Bool) (w : World) (hn : n ≤ 131072) (h : w.cell? ⟨u, 0, none⟩ = some (.slice (some ⟨R, 0, none⟩) n c)) (hr : Row57 w R n T P) (hs : ∀ i, i < n → Safe (fun j => j = R) w (T i) (P i) (B i)) :
    Calls Try.prog 29 #[.agg #[.iface 61 (.pointer (some ⟨u, 0, none⟩)), .int .i32 0]] w (Ans ((List.range n).all B) w) := by
  have hl := cell_lt h
  have HR := Lib.hid hr
  have HS := Lib.hid hs
  obtain ⟨A, hA⟩ : ∃ A, (List.range n).all B = A := ⟨_, rfl⟩
  rw [hA]
  have HA := Lib.hid hA
  clear hr hs hA
  go_enter Try.func29, Try.ntmps29
  go_wp2_with fail
  go_loopw [41] (fun v41 wr => ∃ k : Nat, k ≤ n ∧ v41 = .int .i64 k ∧ (∀ i, i < k → B i = true) ∧ Below w.heap.size w wr) (fun v41 _ => n - (intOf v41).toNat)
  case atStart => exact ⟨0, Nat.zero_le _, rfl, fun i hi => by omega, by go_grown⟩
  case round =>
    obtain ⟨k, hk, rfl, hall, hb⟩ := hrel
    have HALL := Lib.hid hall
    have HB := Lib.hid hb
    clear hall hb
    by_cases hlt : k < n
    · obtain ⟨cs, r, hx⟩ := HR.out
      obtain ⟨x0, x1⟩ := hx k hlt
      have r' := r.below HB.out r.lt
      have c0 := r'.cellv x0
      have c1 := r'.cellv x1
      have hS := HS.out k hlt
      obtain ⟨U, hU⟩ : ∃ U, T k = U := ⟨_, rfl⟩
      obtain ⟨p, hp⟩ : ∃ p, P k = p := ⟨_, rfl⟩
      obtain ⟨b, hbk⟩ : ∃ b, B k = b := ⟨_, rfl⟩
      rw [hU, hp] at c0
      rw [hU, hp, hbk] at hS
      have HSK := Lib.hid hS
      have HBK := Lib.hid hbk
      clear r hx x0 x1 r' hS hU hp hbk
      go_wp2_with fail
      refine (HSK.out _ (FrX.below (Below.trans HB.out (Below.mono (by go_grown) HB.out.size)))).mono ?_
      rintro e w1 ⟨rfl, hb1⟩
      have HB1 : Hid (Below w.heap.size w w1) := HB.out.trans (Below.mono (Below.trans (by go_grown) (hb1.mono (by go_size))) HB.out.size)
      clear hb1
      cases b
      · go_wp2_with fail
        go_ret
        refine ⟨ret_bool ?_, HB1.out⟩
        rw [← HA.out]
        symm
        rw [List.all_eq_false]
        exact ⟨k, List.mem_range.2 hlt, by rw [HBK.out]; simp⟩
      · go_wp2_with fail
        go_roundw
        case rel => exact ⟨k + 1, by omega, by go_num, fun i hi => by
          by_cases e : i = k
          · rw [e]; exact HBK.out
          · exact HALL.out i (by omega), HB1.out⟩
        case measure => simp [intOf]; omega
    · obtain rfl : k = n := by omega
      go_wp2_with fail
      go_ret
      refine ⟨ret_bool ?_, HB.out⟩
      rw [← HA.out]
      symm
      rw [List.all_eq_true]
      exact fun i hi => HALL.out i (List.mem_range.1 hi)

end Go.Proofs.Ytmbbabikbmkjpaa.fnIsSafeForConstLocalPrefixConcat
