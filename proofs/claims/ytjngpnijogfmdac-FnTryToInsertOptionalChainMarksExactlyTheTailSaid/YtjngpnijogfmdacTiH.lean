import Derived.Test.YtjngpnijogfmdacKit
import Derived.Test.YtjngpnijogfmdacTiG
namespace Go.Proofs.Ytjngpnijogfmdac.fnTryToInsertOptionalChainMarksExactlyTheTail
open Go.ChangeShapes Go.WideShapes Go.ChangeAt Go.RowKit
set_option linter.unusedVariables false
set_option maxRecDepth 100000
set_option maxHeartbeats 2000000

theorem Chain_below {w w1 : World} {r : Int} (hb : Below w.heap.size w w1) : ∀ {s : List St} {T u : Nat}, Chain w r s T u → Chain w1 r s T u
  | [], _, _, ⟨h, hr⟩ => ⟨h, hr.below hb hr.lt⟩
  | .dot _ :: _, _, _, ⟨h, T', u', hr, hc⟩ => ⟨h, T', u', hr.below hb hr.lt, Chain_below hb hc⟩
  | .idx _ :: _, _, _, ⟨h, T', u', b, hr, hs, hc⟩ => ⟨h, T', u', b, hr.below hb hr.lt, Lit8_below hs hb, Chain_below hb hc⟩
  | .call :: _, _, _, ⟨h, T', u', hr, hc⟩ => ⟨h, T', u', hr.below hb hr.lt, Chain_below hb hc⟩
theorem MC_nodes {w : World} {r : Int} {ub : Nat} : ∀ {L : List Nde}, MC w r ub L → ∀ y ∈ L, ∃ cs, RowAt w y.2.1 cs (nodeT y.1)
  | _ :: _, ⟨h, _, _, hs⟩, y, hy => by
    rcases List.mem_cons.1 hy with rfl | hy
    · exact nodeRow_row h
    · exact MC_nodes hs y hy
def XL (L : List Nde) (j : Nat) : Prop := ∃ y ∈ L, y.2.1 = j
theorem nodeRow_frm {w w' : World} {r : Int} {ub T v : Nat} {L : List Nde} (hM : MC w r ub L) (hF : Frm (XL L) w w') : ∀ {x : Nde}, nodeRow w T v x → (∀ y ∈ L, y.2.1 ≠ x.2.1) → nodeRow w' T v x
  | (.dot _, _, _), h, hn => (hF.block _ (RowAt.lt h) (fun ⟨y, hy, e⟩ => hn y hy e)).trans h
  | (.call, _, _), h, hn => (hF.block _ (RowAt.lt h) (fun ⟨y, hy, e⟩ => hn y hy e)).trans h
  | (.idx _, _, _), ⟨b, h, R, cs, a1, a2, a3⟩, hn => by
    refine ⟨b, (hF.block _ h.lt (fun ⟨y, hy, e⟩ => hn y hy e)).trans h, R, cs, (hF.block _ a1.lt ?_).trans a1, (hF.block _ a2.lt ?_).trans a2, a3⟩
    · rintro ⟨y, hy, e⟩
      obtain ⟨ds, hd⟩ := MC_nodes hM y hy
      rw [e] at hd
      exact hd.diff a1 (by cases y.1 <;> simp [nodeT]) rfl
    · rintro ⟨y, hy, e⟩
      obtain ⟨ds, hd⟩ := MC_nodes hM y hy
      rw [e] at hd
      exact hd.diff a2 (by cases y.1 <;> simp [nodeT]) rfl

theorem try_id (Tt ut u : Nat) (w : World) : Calls Try.prog 9 #[.agg #[.iface Tt (.pointer (some ⟨ut, 0, none⟩)), .int .i32 0], .agg #[.iface 47 (.pointer (some ⟨u, 0, none⟩)), .int .i32 0]] w fun e w' => e = .returned (.bool false) ∧ Below w.heap.size w w' := by
  have hst := fun (A : Addr) (W : World) (m : Mode) => run_store Try.prog W A (.iface Tt (.pointer (some ⟨ut, 0, none⟩))) m rfl
  go_enter Try.func9, Try.ntmps9
  go_wp2
  go_ret
  exact ⟨rfl, by go_grown⟩

section
variable {Tt ut T v : Nat} {w : World}
theorem lev1 : ∀ {x : Nde}, x.2.2 = 0 → nodeRow w T v x → (∀ W, Below w.heap.size w W → Calls Try.prog 14 #[.iface Tt (.pointer (some ⟨ut, 0, none⟩)), .iface T (.pointer (some ⟨v, 0, none⟩))] W (Vls W true)) →
    Calls Try.prog 9 #[.agg #[.iface Tt (.pointer (some ⟨ut, 0, none⟩)), .int .i32 0], .agg #[.iface (kindS x.1) (.pointer (some ⟨x.2.1, 0, none⟩)), .int .i32 0]] w fun e w' => e = .returned (.bool true) ∧ ∃ W, Below w.heap.size w W ∧ w' = W.setCell ⟨x.2.1, markAt x.1, none⟩ (.int .u8 1)
  | (.dot nm, u, f), hf, h, HV => by
    have hf' : f = 0 := hf
    subst hf'
    exact try_dot1 Tt ut T v u nm w h HV
  | (.idx _, u, f), hf, ⟨b, h, _⟩, HV => by
    have hf' : f = 0 := hf
    subst hf'
    exact try_idx1 Tt ut T v u b w h HV
  | (.call, u, f), hf, h, HV => by
    have hf' : f = 0 := hf
    subst hf'
    exact try_call1 Tt ut T v u w h HV
theorem lev2 (PI : World → World → Prop) : ∀ {x : Nde}, x.2.2 = 0 → nodeRow w T v x → (∀ W, Below w.heap.size w W → Calls Try.prog 14 #[.iface Tt (.pointer (some ⟨ut, 0, none⟩)), .iface T (.pointer (some ⟨v, 0, none⟩))] W (Vls W false)) →
    (∀ W, Below w.heap.size w W → Calls Try.prog 9 #[.agg #[.iface Tt (.pointer (some ⟨ut, 0, none⟩)), .int .i32 0], .agg #[.iface T (.pointer (some ⟨v, 0, none⟩)), .int .i32 0]] W fun e w' => e = .returned (.bool true) ∧ PI W w') → (∀ W w', Below w.heap.size w W → PI W w' → w'.heap[x.2.1]? = W.heap[x.2.1]?) →
    Calls Try.prog 9 #[.agg #[.iface Tt (.pointer (some ⟨ut, 0, none⟩)), .int .i32 0], .agg #[.iface (kindS x.1) (.pointer (some ⟨x.2.1, 0, none⟩)), .int .i32 0]] w fun e w' => e = .returned (.bool true) ∧ ∃ W W2, Below w.heap.size w W ∧ PI W W2 ∧ w' = W2.setCell ⟨x.2.1, markAt x.1, none⟩ (.int .u8 2)
  | (.dot nm, u, f), hf, h, HV, HI, HP => by
    have hf' : f = 0 := hf
    subst hf'
    exact try_dot2 Tt ut T v u nm w h HV PI HI HP
  | (.idx _, u, f), hf, ⟨b, h, _⟩, HV, HI, HP => by
    have hf' : f = 0 := hf
    subst hf'
    exact try_idx2 Tt ut T v u b w h HV PI HI HP
  | (.call, u, f), hf, h, HV, HI, HP => by
    have hf' : f = 0 := hf
    subst hf'
    exact try_call2 Tt ut T v u w h HV PI HI HP
theorem lev3 (PI : World → World → Prop) : ∀ {x : Nde}, x.2.2 = 0 → nodeRow w T v x → (∀ W, Below w.heap.size w W → Calls Try.prog 14 #[.iface Tt (.pointer (some ⟨ut, 0, none⟩)), .iface T (.pointer (some ⟨v, 0, none⟩))] W (Vls W false)) →
    (∀ W, Below w.heap.size w W → Calls Try.prog 9 #[.agg #[.iface Tt (.pointer (some ⟨ut, 0, none⟩)), .int .i32 0], .agg #[.iface T (.pointer (some ⟨v, 0, none⟩)), .int .i32 0]] W fun e w' => e = .returned (.bool false) ∧ PI W w') → (∀ W w', Below w.heap.size w W → PI W w' → w'.heap[x.2.1]? = W.heap[x.2.1]?) →
    Calls Try.prog 9 #[.agg #[.iface Tt (.pointer (some ⟨ut, 0, none⟩)), .int .i32 0], .agg #[.iface (kindS x.1) (.pointer (some ⟨x.2.1, 0, none⟩)), .int .i32 0]] w fun e w' => e = .returned (.bool false) ∧ ∃ W, Below w.heap.size w W ∧ PI W w'
  | (.dot nm, u, f), hf, h, HV, HI, HP => by
    have hf' : f = 0 := hf
    subst hf'
    exact try_dot3 Tt ut T v u nm w h HV PI HI HP
  | (.idx _, u, f), hf, ⟨b, h, _⟩, HV, HI, HP => by
    have hf' : f = 0 := hf
    subst hf'
    exact try_idx3 Tt ut T v u b w h HV PI HI HP
  | (.call, u, f), hf, h, HV, HI, HP => by
    have hf' : f = 0 := hf
    subst hf'
    exact try_call3 Tt ut T v u w h HV PI HI HP
end

/-- Does the test stand here? -/
def here (r r' : Int) (sT : List St) : List St → Bool := fun t => decide (r = r' ∧ sT = t)
/-- What a try comes to. -/
def Try9 (r r' : Int) (sT : List St) (ub : Nat) (L : List Nde) (w : World) (e : Ending) (w' : World) : Prop :=
  e = .returned (.bool (tryM (here r r' sT) L).isSome) ∧ MC w' r' ub ((tryM (here r r' sT) L).getD L) ∧ Frm (XL L) w w'

theorem Small_tail {x : St} {s : List St} (h : Small (x :: s)) : Small s := by
  cases x
  · exact h.2
  · exact h.2
  · exact h

theorem try9 (r r' : Int) (sT : List St) (Tt ut ub : Nat) (hT : Small sT) : ∀ (L : List Nde) (w : World), MC w r' ub L → clean L → Small (steps L) → Chain w r sT Tt ut →
    Calls Try.prog 9 #[.agg #[.iface Tt (.pointer (some ⟨ut, 0, none⟩)), .int .i32 0], .agg #[.iface (kindOf L) (.pointer (some ⟨blk ub L, 0, none⟩)), .int .i32 0]] w (Try9 r r' sT ub L w)
  | [], w, hM, _, _, _ => (try_id Tt ut ub w).mono fun e w' ⟨he, hb⟩ => ⟨he, MC_below hb hM, Frm_below hb⟩
  | x :: s, w, hM, hc, hS, hC => by
    obtain ⟨hrow, hub, hlt, hs⟩ := id hM
    have hS' : Small (steps s) := Small_tail (x := x.1) hS
    have HV : ∀ W, Below w.heap.size w W → Calls Try.prog 14 #[.iface Tt (.pointer (some ⟨ut, 0, none⟩)), .iface (kindOf s) (.pointer (some ⟨blk ub s, 0, none⟩))] W (Vls W (here r r' sT (steps s))) := fun W hb =>
      vls r r' sT (steps s) Tt ut (kindOf s) (blk ub s) W hT hS' (Chain_below hb hC) (MC.chain (MC_below hb hs) hc.2)
    have hux : x.2.1 < w.heap.size := by obtain ⟨cs, hr⟩ := nodeRow_row hrow; exact hr.lt
    cases hp : here r r' sT (steps s) with
    | true =>
      rw [hp] at HV
      have ht : tryM (here r r' sT) (x :: s) = some ((x.1, x.2.1, 1) :: s) := by unfold tryM; rw [if_pos hp]
      refine (lev1 hc.1 hrow HV).mono ?_
      rintro e w' ⟨rfl, W, hb, rfl⟩
      refine ⟨by rw [ht]; rfl, ?_, Frm_set (Frm_below hb) ⟨x, .head _, rfl⟩⟩
      rw [ht]
      exact MC_mark 1 (MC_below hb hM)
    | false =>
      rw [hp] at HV
      have hne : ∀ y ∈ s, y.2.1 ≠ x.2.1 := fun y hy => by have := hlt y hy; omega
      have HI : ∀ W, Below w.heap.size w W → Calls Try.prog 9 #[.agg #[.iface Tt (.pointer (some ⟨ut, 0, none⟩)), .int .i32 0], .agg #[.iface (kindOf s) (.pointer (some ⟨blk ub s, 0, none⟩)), .int .i32 0]] W (Try9 r r' sT ub s W) := fun W hb =>
        try9 r r' sT Tt ut ub hT s W (MC_below hb hs) hc.2 hS' (Chain_below hb hC)
      cases ht : tryM (here r r' sT) s with
      | none =>
        have hn : tryM (here r r' sT) (x :: s) = none := by
          unfold tryM
          rw [hp, ht]
          rfl
        refine (lev3 (fun W w' => MC w' r' ub s ∧ Frm (XL s) W w') hc.1 hrow HV (fun W hb => (HI W hb).mono ?_) ?_).mono ?_
        · rintro e w' ⟨h1, h2, h3⟩
          rw [ht] at h1 h2
          exact ⟨h1, h2, h3⟩
        · rintro W w' hb ⟨_, h3⟩
          exact h3.block _ (Nat.lt_of_lt_of_le hux hb.size) (fun ⟨y, hy, e⟩ => hne y hy e)
        · rintro e w' ⟨rfl, W, hb, h2, h3⟩
          refine ⟨by rw [hn]; rfl, ?_, Frm_mono (Frm_trans (Frm_below hb) h3) (fun j ⟨y, hy, e⟩ => ⟨y, .tail _ hy, e⟩)⟩
          rw [hn]
          exact ⟨nodeRow_frm (MC_below hb hs) h3 (nodeRow_below hb hrow) hne, hub, hlt, h2⟩
      | some s' =>
        have hn : tryM (here r r' sT) (x :: s) = some ((x.1, x.2.1, 2) :: s') := by
          unfold tryM
          rw [hp, ht]
          rfl
        obtain ⟨k1, k2, k3⟩ := tryM_blk (ub := ub) ht
        refine (lev2 (fun W w' => MC w' r' ub s' ∧ Frm (XL s) W w') hc.1 hrow HV (fun W hb => (HI W hb).mono ?_) ?_).mono ?_
        · rintro e w' ⟨h1, h2, h3⟩
          rw [ht] at h1 h2
          exact ⟨h1, h2, h3⟩
        · rintro W w' hb ⟨_, h3⟩
          exact h3.block _ (Nat.lt_of_lt_of_le hux hb.size) (fun ⟨y, hy, e⟩ => hne y hy e)
        · rintro e w' ⟨rfl, W, W2, hb, ⟨h2, h3⟩, rfl⟩
          refine ⟨by rw [hn]; rfl, ?_, Frm_set (Frm_mono (Frm_trans (Frm_below hb) h3) (fun j ⟨y, hy, e⟩ => ⟨y, .tail _ hy, e⟩)) ⟨x, .head _, rfl⟩⟩
          rw [hn]
          refine MC_mark (x := x) 2 (s := s') ⟨?_, hub, fun y hy => ?_, h2⟩
          · rw [k1, k2]
            exact nodeRow_frm (MC_below hb hs) h3 (nodeRow_below hb hrow) hne
          · obtain ⟨z, hz, e⟩ := k3 y hy
            rw [← e]
            exact hlt z hz

end Go.Proofs.Ytjngpnijogfmdac.fnTryToInsertOptionalChainMarksExactlyTheTail
