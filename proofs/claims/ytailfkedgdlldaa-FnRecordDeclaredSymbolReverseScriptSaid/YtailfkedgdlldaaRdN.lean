import Derived.Test.YtailfkedgdlldaaKit
import Derived.Test.YtailfkedgdlldaaRdM
import Derived.Test.YtailfkedgdlldaaRdK
namespace Go.Proofs.Ytailfkedgdlldaa
open Go.ChangeShapes Go.WideShapes Go.ChangeAt Go.RowKit
set_option linter.unusedVariables false
set_option maxRecDepth 100000
set_option maxHeartbeats 2000000

theorem zz22 (t : Bool) (a1 : Option Addr) (n1 c1 : Nat) (a2 : Option Addr) (n2 c2 : Nat) (a3 : Option Addr) (n3 c3 : Nat) (a4 : Option Addr) (n4 c4 : Nat) (w : World) (h1 : n1 ≤ 9223372036854775807) (h2 : n2 ≤ 9223372036854775807) (h3 : n3 ≤ 9223372036854775807) (h4 : n4 ≤ 9223372036854775807) :
    Calls Try.prog 22 #[.bool t, .slice a1 n1 c1, .slice a2 n2 c2, .slice a3 n3 c3, .slice a4 n4 c4] w (SomeB w) := by
  go_enter Try.func22, Try.ntmps22
  go_wp2
  all_goals
    go_ret
    exact ⟨_, rfl, rfl⟩

theorem early (t : Bool) (a1 : Option Addr) (n1 c1 : Nat) (a2 : Option Addr) (n2 c2 : Nat) (a3 : Option Addr) (n3 c3 : Nat) (a4 : Option Addr) (n4 c4 : Nat) (w : World) (h1 : n1 ≤ 9223372036854775807) (h2 : n2 ≤ 9223372036854775807) (h3 : n3 ≤ 9223372036854775807) (h4 : n4 ≤ 9223372036854775807) (h : 65536 < n1 ∨ 65536 < n2 ∨ 65536 < n3 ∨ 65536 < n4) :
    Calls Try.prog 5 #[.bool t, .slice a1 n1 c1, .slice a2 n2 c2, .slice a3 n3 c3, .slice a4 n4 c4] w fun e w' => e = .returned (.bool true) ∧ Below w.heap.size w w' := by
  by_cases hA : 65536 < n1
  · clear h
    go_enter Try.func5, Try.ntmps5
    go_wp2_with fail
    refine (zz22 _ _ _ _ _ _ _ _ _ _ _ _ _ _ h1 h2 h3 h4).mono ?_
    rintro e w1 ⟨b, rfl, rfl⟩
    cases b
    all_goals
      go_wp2_with fail
      go_ret
      exact ⟨rfl, Below.refl _ _⟩
  · by_cases hB : 65536 < n2
    · clear h
      go_enter Try.func5, Try.ntmps5
      go_wp2_with fail
      refine (zz22 _ _ _ _ _ _ _ _ _ _ _ _ _ _ h1 h2 h3 h4).mono ?_
      rintro e w1 ⟨b, rfl, rfl⟩
      cases b
      all_goals
        go_wp2_with fail
        go_ret
        exact ⟨rfl, Below.refl _ _⟩
    · by_cases hC : 65536 < n3
      · clear h
        go_enter Try.func5, Try.ntmps5
        go_wp2_with fail
        refine (zz22 _ _ _ _ _ _ _ _ _ _ _ _ _ _ h1 h2 h3 h4).mono ?_
        rintro e w1 ⟨b, rfl, rfl⟩
        cases b
        all_goals
          go_wp2_with fail
          go_ret
          exact ⟨rfl, Below.refl _ _⟩
      · have hD : 65536 < n4 := by omega
        clear h
        go_enter Try.func5, Try.ntmps5
        go_wp2_with fail
        refine (zz22 _ _ _ _ _ _ _ _ _ _ _ _ _ _ h1 h2 h3 h4).mono ?_
        rintro e w1 ⟨b, rfl, rfl⟩
        cases b
        all_goals
          go_wp2_with fail
          go_ret
          exact ⟨rfl, Below.refl _ _⟩

theorem Pa.fr {w w' : World} {p q S cur mod B : Nat} {v : Value} {x : Fx} {L : List Nat} {q2 : Nat} (h : Pa w p q S cur mod B v x L) (hf : Fr (RX q2 w.heap.size) w w') (hq : q ≠ q2) (hq2 : ∃ cs, RowAt w q2 cs 49) : Pa w' p q S cur mod B v x L := by
  obtain ⟨⟨cs, r1, r2⟩, ⟨ds, d1, d2⟩, ho⟩ := h
  obtain ⟨es, e1⟩ := hq2
  refine ⟨⟨cs, r1.kept (hf.block p r1.lt ?_), r2⟩, ⟨ds, d1.kept (hf.block q d1.lt ?_), d2⟩, own_kept ho fun g hg => ?_⟩
  · rintro (h | h)
    · exact r1.ne e1 (by decide) h
    · have := r1.lt; omega
  · rintro (h | h)
    · exact hq h
    · have := d1.lt; omega
  · obtain ⟨⟨fs, f1⟩, _⟩ := own83 ho hg
    refine hf.block g f1.lt ?_
    rintro (h | h)
    · exact f1.ne e1 (by decide) h
    · have := f1.lt; omega

/-- A part's list, as a slice. -/
theorem own_shape {w : World} {B n : Nat} {v : Value} {xs : List Value} (h : w.ownsRow B 83 3 v n xs) (hn : 0 < n) : ∃ g cap cs, v = .slice (some ⟨g, 0, none⟩) n cap ∧ n ≤ cap ∧ cap ≤ maxLen ∧ RowAt w g cs 83 ∧ cs.toList.take (n * 3) = xs := by
  rcases h.2 with ⟨_, h2⟩ | ⟨g, cap, cur, hv, hgB, hg, hnc, hcm, hcs, htk⟩
  · omega
  · exact ⟨g, cap, cur, hv, hnc, hcm, hg, htk⟩
theorem own_shape0 {w : World} {B : Nat} {v : Value} {xs : List Value} (h : w.ownsRow B 83 3 v 0 xs) : ∃ a c, v = .slice a 0 c := by
  rcases h.2 with ⟨rfl, _⟩ | ⟨g, cap, cur, rfl, _⟩
  · exact ⟨_, _, rfl⟩
  · exact ⟨_, _, rfl⟩
theorem ent_cells {cs : Array Value} {x : Fx} {L : List Nat} (h : cs.toList.take (L.length * 3) = ent x L) {i k : Nat} (hk : L[i]? = some k) : cs[i * 3]? = some (.int .u32 1) ∧ cs[i * 3 + 1]? = some (.int .u32 k) ∧ cs[i * 3 + 2]? = some (.bool (x.isTop k)) := by
  have hi : i < L.length := (List.getElem?_eq_some_iff.1 hk).1
  obtain ⟨h1, h2, h3⟩ := ent_get x L i k hk
  rw [← h] at h1 h2 h3
  rw [List.getElem?_take, if_pos (by omega)] at h1 h2 h3
  exact ⟨by simpa using h1, by simpa using h2, by simpa using h3⟩

/-- The symbols, the scopes and the members as one. -/
theorem sc_of {w w1 : World} {S cur n : Nat} {top : Bool} {nm : Nat → ByteArray} {kd : Nat → Int} (hs : Sy w S n nm kd) (hg : ScG w1 (w1.heap.size + 1) w1.heap.size w) (hc : if top then cur = w1.heap.size + 1 else cur ≠ w1.heap.size + 1 ∧ ∃ cs, RowAt w cur cs 205) :
    ∃ ma mb : Nat → Int, Sc w S cur (w1.heap.size + 1) w1.heap.size ⟨n, top, nm, kd, ma, mb⟩ := by
  obtain ⟨F, cnt, g1, g2, g3, g4⟩ := hg
  have hF : ∀ k, ∃ ab : Int × Int, ∃ c : Int, (F (.string (nm k))).getD (.agg #[.int .u32 0, .int .u32 0, .int .i32 0]) = .agg #[.int .u32 ab.1, .int .u32 ab.2, .int .i32 c] := fun k => by
    rcases g3 (.string (nm k)) with h | ⟨m, h⟩
    · rw [h]; exact ⟨(0, 0), 0, rfl⟩
    · rw [h]; exact ⟨(1, m), 0, rfl⟩
  obtain ⟨G, hG⟩ := Classical.axiomOfChoice hF
  obtain ⟨cs, s1, _, s2⟩ := hs
  exact ⟨fun k => (G k).1, fun k => (G k).2, ⟨cs, s1, s2⟩, ⟨_, g1, rfl⟩, hc, ⟨F, cnt, g2, fun k _ => hG k⟩⟩

end Go.Proofs.Ytailfkedgdlldaa
