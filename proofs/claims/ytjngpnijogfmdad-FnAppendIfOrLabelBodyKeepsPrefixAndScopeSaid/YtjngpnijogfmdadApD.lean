import Derived.Test.YtjngpnijogfmdadKit
import Derived.Test.YtjngpnijogfmdadApC
import Derived.ArgAppend
namespace Go.Proofs.Ytjngpnijogfmdad.fnAppendIfOrLabelBodyKeepsPrefixAndScope
open Go.ChangeShapes Go.WideShapes Go.ChangeAt Go.RowKit
set_option linter.unusedVariables false
set_option maxRecDepth 100000
set_option maxHeartbeats 2000000

/-- What the appending leaves: the prefix, then statements that do not care about their scope. -/
def Outp (w : World) (n lim : Nat) (z0 : Bool) (T u : Nat → Nat) (l : Nat → Int) (e : Ending) (w' : World) : Prop := ∃ g c N T2 u2 l2, e = .returned (.slice (some ⟨g, 0, none⟩) N c) ∧ n ≤ N ∧ N ≤ n + lim ∧ (N = n → z0 = true) ∧ Stms w' g N T2 u2 l2 ∧ (∀ i, i < n → T2 i = T i ∧ u2 i = u i ∧ l2 i = l i) ∧ (∀ i, n ≤ i → i < N → Sd w' (T2 i) (u2 i) false) ∧ Below w.heap.size w w'

theorem outp_grow {w w1 w' : World} {n m lim B : Nat} {z0 : Bool} {T u T' u' : Nat → Nat} {l l' : Nat → Int} {v : Value} (hb : Below w.heap.size w w1) (hown : w'.ownsRow B 32 2 v (n + m) (xs T u l n ++ xs T' u' l' m)) (hg : w1.grownBy w' none) (hm : 0 < m) (hlim : m ≤ lim)
    (hd : ∀ i, i < m → Sd w1 (T' i) (u' i) false) : Outp w n lim z0 T u l (.returned v) w' := by
  have hb2 : Below w1.heap.size w1 w' := (Below.refl _ _).grown hg (Nat.le_refl _) (fun k hk => by cases hk)
  obtain ⟨g, c, rfl, _, _⟩ := own_shape hown (by omega)
  rw [xs_app] at hown
  refine ⟨g, c, n + m, _, _, _, rfl, by omega, by omega, (fun e => by omega), Stms_own hown, fun i hi => ⟨glue_lo _ _ hi, glue_lo _ _ hi, glue_lo _ _ hi⟩, fun i h1 h2 => ?_, hb.trans (hb2.mono hb.size)⟩
  obtain ⟨j, rfl⟩ : ∃ j, i = n + j := ⟨i - n, by omega⟩
  rw [glue_hi, glue_hi]
  exact Sd_below (hd j (by omega)) hb2

theorem Stms_new {w : World} {T u : Nat} {l : Int} : Stms (w.alloc (.cells #[.iface T (.pointer (some ⟨u, 0, none⟩)), .int .i32 l] 32)) w.heap.size 1 (fun _ => T) (fun _ => u) (fun _ => l) := by
  intro i hi
  obtain rfl : i = 0 := by omega
  exact ⟨(newAt rfl).cellv rfl, (newAt rfl).cellv rfl⟩

theorem Stms_new' {w : World} {b T u : Nat} {l : Int} (hb : b = w.heap.size) : Stms (w.alloc (.cells #[.iface T (.pointer (some ⟨u, 0, none⟩)), .int .i32 l] 32)) b 1 (fun _ => T) (fun _ => u) (fun _ => l) := by
  subst hb
  exact Stms_new

/-- The body is a plain statement that does not care. -/
theorem app_plain (R n : Nat) (T u : Nat → Nat) (l : Nat → Int) (T0 u0 : Nat) (l0 : Int) (lim : Nat) (w : World) (hn : n ≤ 65536) (hlim : 1 ≤ lim) (hS : Stms w R n T u l) (hT : T0 ∈ simT) (hd : Sd w T0 u0 false) :
    Calls Try.prog 12 #[.slice (some ⟨R, 0, none⟩) n n, .agg #[.iface T0 (.pointer (some ⟨u0, 0, none⟩)), .int .i32 l0]] w (Outp w n lim false T u l) := by
  obtain ⟨i0, hi, hz0, hz1, hz2⟩ := info_parts info32
  have HS := Lib.hid hS
  have HD := Lib.hid hd
  have hst := fun (A : Addr) (W : World) (m : Mode) => run_store Try.prog W A (.iface T0 (.pointer (some ⟨u0, 0, none⟩))) m rfl
  have h39 : (T0 == 39) = false := by
    simp only [simT, List.mem_cons, List.not_mem_nil, or_false] at hT
    rcases hT with rfl | rfl | rfl | rfl | rfl | rfl | rfl <;> rfl
  have hn39 : T0 ≠ 39 := by simpa using h39
  clear hS hd hT
  go_enter Try.func12, Try.ntmps12
  go_wp2_with fail
  refine (care _ T0 u0 false l0 (Sd_below HD.out (by go_grown))).mono ?_
  rintro e w2 ⟨rfl, h2⟩
  have hb2 : Hid (Below w.heap.size w w2) := Below.trans (by go_grown) (h2.mono (by simp))
  have hrow : RowAt w2 w.heap.size #[.iface T0 (.pointer (some ⟨u0, 0, none⟩)), .int .i32 l0] 32 := (RowAt.new w _ _).below h2 (by simp)
  have c0 := hrow.cellv (j := 0) (v := .iface T0 (.pointer (some ⟨u0, 0, none⟩))) rfl
  have c1 := hrow.cellv (j := 1) (v := .int .i32 l0) rfl
  have hlt := hrow.lt
  clear hrow h2
  go_wp2_with (at_builtin; refine wpList_append_grows _ rfl (.tmp 41) (.tmp 43) 24 rfl 32 i0 _ 2 24 Try.underlying24 hi hz0 hz1 hz2 rfl (by decide) (some ⟨R, 0, none⟩) n n (xs T u l n) rfl (fun e => by cases e) (xs_len _ _ _ _) (fun b hb => by cases hb; exact Stms_xs (Stms_below HS.out (hb2.out.alloc hb2.out.size _))) ⟨w2.heap.size, 0, none⟩ 1 1 (xs (fun _ => T0) (fun _ => u0) (fun _ => l0) 1) rfl (xs_len _ _ _ _) (Stms_xs Stms_new) (xs_one _ _ _ _) (by omega) (by unfold maxLen; omega) (by omega) ?_)
  intro v w3 hown hg
  have HO := Lib.hid (outp_grow (lim := lim) (z0 := false) (hb2.out.alloc hb2.out.size _) hown hg (by omega) hlim (fun i hi => Sd_below HD.out (hb2.out.alloc hb2.out.size _)))
  clear hown hg
  go_wp2_with fail
  go_ret
  exact HO.out

/-- The body cares and is no block: it goes into a block of its own. -/
theorem app_cares (R n : Nat) (T u : Nat → Nat) (l : Nat → Int) (T0 u0 : Nat) (l0 : Int) (lim : Nat) (w : World) (hn : n ≤ 65536) (hlim : 1 ≤ lim) (hS : Stms w R n T u l) (hT : T0 ∈ simT) (hd : Sd w T0 u0 true) :
    Calls Try.prog 12 #[.slice (some ⟨R, 0, none⟩) n n, .agg #[.iface T0 (.pointer (some ⟨u0, 0, none⟩)), .int .i32 l0]] w (Outp w n lim false T u l) := by
  obtain ⟨i0, hi, hz0, hz1, hz2⟩ := info_parts info32
  have HS := Lib.hid hS
  have HD := Lib.hid hd
  have hst := fun (A : Addr) (W : World) (m : Mode) => run_store Try.prog W A (.iface T0 (.pointer (some ⟨u0, 0, none⟩))) m rfl
  have h39 : (T0 == 39) = false := by
    simp only [simT, List.mem_cons, List.not_mem_nil, or_false] at hT
    rcases hT with rfl | rfl | rfl | rfl | rfl | rfl | rfl <;> rfl
  have hn39 : T0 ≠ 39 := by simpa using h39
  clear hS hd hT
  go_enter Try.func12, Try.ntmps12
  go_wp2_with fail
  refine (care _ T0 u0 true l0 (Sd_below HD.out (by go_grown))).mono ?_
  rintro e w2 ⟨rfl, h2⟩
  have hb2 : Hid (Below w.heap.size w w2) := Below.trans (by go_grown) (h2.mono (by simp))
  have hrow : RowAt w2 w.heap.size #[.iface T0 (.pointer (some ⟨u0, 0, none⟩)), .int .i32 l0] 32 := (RowAt.new w _ _).below h2 (by simp)
  have c0 := hrow.cellv (j := 0) (v := .iface T0 (.pointer (some ⟨u0, 0, none⟩))) rfl
  have c1 := hrow.cellv (j := 1) (v := .int .i32 l0) rfl
  have hlt := hrow.lt
  have hb3 : Hid (Below w.heap.size w (((w2.alloc (.cells #[.iface T0 (.pointer (some ⟨u0, 0, none⟩)), .int .i32 l0] 32)).alloc (.cells #[.slice (some ⟨w2.heap.size, 0, none⟩) 1 1, .int .i32 0] 41)).alloc (.cells #[.iface 39 (.pointer (some ⟨w2.heap.size + 1, 0, none⟩)), .int .i32 l0] 32))) :=
    ((hb2.out.alloc hb2.out.size _).alloc (by have := hb2.out.size; simp; omega) _).alloc (by have := hb2.out.size; simp; omega) _
  clear hrow h2
  go_wp2_with (at_builtin; refine wpList_append_grows _ rfl (.tmp 30) (.tmp 39) 24 rfl 32 i0 _ 2 24 Try.underlying24 hi hz0 hz1 hz2 rfl (by decide) (some ⟨R, 0, none⟩) n n (xs T u l n) rfl (fun e => by cases e) (xs_len _ _ _ _) (fun b hb => by cases hb; exact Stms_xs (Stms_below HS.out hb3.out)) ⟨w2.heap.size + 1 + 1, 0, none⟩ 1 1 (xs (fun _ => 39) (fun _ => w2.heap.size + 1) (fun _ => l0) 1) rfl (xs_len _ _ _ _) (Stms_xs (Stms_new' (by simp))) (xs_one _ _ _ _) (by omega) (by unfold maxLen; omega) (by omega) ?_)
  intro v w3 hown hg
  have HO := Lib.hid (outp_grow (lim := lim) (z0 := false) hb3.out hown hg (by omega) hlim (fun i hi => .inl ⟨rfl, by decide⟩))
  clear hown hg
  go_wp2_with fail
  go_ret
  exact HO.out

/-- The body is a block. -/
theorem app_block (R n : Nat) (T u : Nat → Nat) (l : Nat → Int) (B R2 m : Nat) (T' u' : Nat → Nat) (l' : Nat → Int) (C : Nat → Bool) (l0 : Int) (lim : Nat) (w : World) (hn : n ≤ 65536) (hm : m ≤ 65536) (hlim : 1 ≤ lim) (hlm : m ≤ lim) (hS : Stms w R n T u l) (hc : w.cell? ⟨B, 0, none⟩ = some (.slice (some ⟨R2, 0, none⟩) m m)) (hP : Part w R2 m m T' u' l' C) :
    Calls Try.prog 12 #[.slice (some ⟨R, 0, none⟩) n n, .agg #[.iface 39 (.pointer (some ⟨B, 0, none⟩)), .int .i32 l0]] w (Outp w n lim (decide (m = 0)) T u l) := by
  obtain ⟨i0, hi, hz0, hz1, hz2⟩ := info_parts info32
  have HS := Lib.hid hS
  have HP := Lib.hid hP
  have hB := cell_lt hc
  have HC := Lib.hid hc
  clear hS hP
  go_enter Try.func12, Try.ntmps12
  go_wp2_with fail
  refine (any14 R2 m T' u' l' C _ hm (Part_below HP.out (by go_grown))).mono ?_
  rintro e w2 ⟨q, rfl, hq, hq1, h2⟩
  have hb2 : Hid (Below w.heap.size w w2) := Below.trans (by go_grown) (h2.mono (by simp))
  have hrow : RowAt w2 w.heap.size #[.iface 39 (.pointer (some ⟨B, 0, none⟩)), .int .i32 l0] 32 := (RowAt.new w _ _).below h2 (by simp)
  have c0 := hrow.cellv (j := 0) (v := .iface 39 (.pointer (some ⟨B, 0, none⟩))) rfl
  have c1 := hrow.cellv (j := 1) (v := .int .i32 l0) rfl
  have hlt := hrow.lt
  have cb := later HC.out hb2.out
  have hB2 := cell_lt cb
  have HR := Lib.hid hrow
  have HP2 := Lib.hid (Part_below HP.out hb2.out)
  have HS2 := Lib.hid (Stms_below HS.out hb2.out)
  clear hrow h2 hc HP
  cases q
  · have HQ := Lib.hid (hq rfl)
    clear hq hq1
    by_cases hm0 : m = 0
    · subst hm0
      go_wp2_with fail
      go_ret
      exact ⟨R, n, n, T, u, l, rfl, Nat.le_refl _, by omega, fun _ => rfl, HS2.out, fun i hi => ⟨rfl, rfl, rfl⟩, fun i h1 h2 => by omega, hb2.out⟩
    · go_wp2_with (at_builtin; refine wpList_append_grows _ rfl (.tmp 22) (.tmp 26) 24 rfl 32 i0 _ 2 24 Try.underlying24 hi hz0 hz1 hz2 rfl (by decide) (some ⟨R, 0, none⟩) n n (xs T u l n) rfl (fun e => by cases e) (xs_len _ _ _ _) (fun b hb => by cases hb; exact Stms_xs HS2.out) ⟨R2, 0, none⟩ m m (xs T' u' l' m) rfl (xs_len _ _ _ _) (Stms_xs (Part_stms HP2.out)) (xs_one _ _ _ _) (by omega) (by unfold maxLen; omega) (by omega) ?_)
      intro v w3 hown hg
      have HO := Lib.hid (outp_grow (lim := lim) (z0 := decide (m = 0)) hb2.out hown hg (by omega) hlm (fun i hi => HQ.out i hi ▸ (HP2.out.sd i hi).2))
      clear hown hg
      go_wp2_with fail
      go_ret
      exact HO.out
  · have hm0 := hq1 rfl
    clear hq hq1
    go_wp2_with fail
    refine (care _ 39 B false l0 (.inl ⟨rfl, by decide⟩)).mono ?_
    rintro e w4 ⟨rfl, h4⟩
    have hb4 : Hid (Below w.heap.size w w4) := hb2.out.trans (h4.mono hb2.out.size)
    have hrow := HR.out.below h4 hlt
    have d0 := hrow.cellv (j := 0) (v := .iface 39 (.pointer (some ⟨B, 0, none⟩))) rfl
    have d1 := hrow.cellv (j := 1) (v := .int .i32 l0) rfl
    have hlt4 := hrow.lt
    clear hrow h4 c0 c1 cb
    go_wp2_with (at_builtin; refine wpList_append_grows _ rfl (.tmp 41) (.tmp 43) 24 rfl 32 i0 _ 2 24 Try.underlying24 hi hz0 hz1 hz2 rfl (by decide) (some ⟨R, 0, none⟩) n n (xs T u l n) rfl (fun e => by cases e) (xs_len _ _ _ _) (fun b hb => by cases hb; exact Stms_xs (Stms_below HS.out (hb4.out.alloc hb4.out.size _))) ⟨w4.heap.size, 0, none⟩ 1 1 (xs (fun _ => 39) (fun _ => B) (fun _ => l0) 1) rfl (xs_len _ _ _ _) (Stms_xs Stms_new) (xs_one _ _ _ _) (by omega) (by unfold maxLen; omega) (by omega) ?_)
    intro v w5 hown hg
    have HO := Lib.hid (outp_grow (lim := lim) (z0 := decide (m = 0)) (hb4.out.alloc hb4.out.size _) hown hg (by omega) hlim (fun i hi => .inl ⟨rfl, by decide⟩))
    clear hown hg
    go_wp2_with fail
    go_ret
    exact HO.out

end Go.Proofs.Ytjngpnijogfmdad.fnAppendIfOrLabelBodyKeepsPrefixAndScope
