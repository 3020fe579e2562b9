import Derived.Test.YtailfkedgdlldacKit
import Derived.Test.YtailfkedgdlldacJwA
namespace Go.Proofs.Ytailfkedgdlldac
open Go.ChangeShapes Go.WideShapes Go.ChangeAt Go.RowKit
set_option linter.unusedVariables false
set_option maxRecDepth 100000
set_option maxHeartbeats 2000000

theorem info27j : (Try.prog.info? 27).map (fun i => (i.zero, i.size, i.bytes)) = some (some (.agg #[.nilIface, .int .i32 0]), 2, 24) := by kernel_rfl

/-- What gathering leaves. -/
def Gathered (B : Nat) (ys : List (Value × Int)) (w : World) (e : Ending) (w' : World) : Prop :=
  ∃ v, e = .returned v ∧ w'.ownsRow B 27 2 v ys.length (flat ys) ∧ K5 0 w w' ∧ Below B w w'

theorem own_row {w : World} {B n g : Nat} {v : Value} {xs : List Value} (h : w.ownsRow B 27 2 v n xs) (hg : v.ownBlock = some g) : (∃ cs, RowAt w g cs 27) ∧ B ≤ g := by
  rcases h.2 with ⟨rfl, _⟩ | ⟨g', cap, cur, rfl, hb, hh, _⟩
  · cases hg
  · have : g' = g := by simpa [Value.ownBlock] using hg
    subst this
    exact ⟨⟨cur, hh⟩, hb⟩

theorem cell_two {W : World} {g : Nat} {a b : Value} {t : TypeId} (h : RowAt W g #[a, b] t) : ∀ j u, [a, b][j]? = some u → W.cell? ((⟨g, 0, none⟩ : Addr).add j) = some u := by
  intro j u hu
  have e : (⟨g, 0, none⟩ : Addr).add j = ⟨g, j, none⟩ := by
    unfold Addr.add
    split
    · rename_i h; rw [h]
    · simp
  rw [e]
  exact h.cellv (by simpa using hu)

theorem gather_end {B : Nat} {w w1 w2 : World} {v v' : Value} {xs : List (Value × Int)} {x : Value × Int} (hb : Below w.heap.size w w1) (hB : B ≤ w.heap.size) (h1 : w1.ownsRow B 27 2 v xs.length (flat xs)) (h2 : w2.ownsRow B 27 2 v' (xs.length + 1) (flat xs ++ [x.1, .int .i32 x.2])) (hg : w1.grownBy w2 v.ownBlock) :
    w2.ownsRow B 27 2 v' (xs ++ [x]).length (flat (xs ++ [x])) ∧ K5 0 w w2 ∧ Below B w w2 := by
  refine ⟨?_, (K5.later hb).trans (K5.grown hg fun j hj => (own_row h1 hj).1), Below.grown (hb.mono hB) hg (Nat.le_trans hB hb.size) fun j hj => (own_row h1 hj).2⟩
  rw [flat_snoc]
  simpa using h2

theorem collect (op : Int) : ∀ (t : Tr) (B : Nat) (v : Value) (xs : List (Value × Int)) (w : World), t.At w → B ≤ w.heap.size → w.ownsRow B 27 2 v xs.length (flat xs) → xs.length + t.sz ≤ 100000 →
    Calls Try.prog 28 #[.agg #[t.d, .int .i32 t.l], .int .u8 op, v] w (Gathered B (xs ++ t.leaves op) w)
  | .leaf p l, B, v, xs, w, hat, hB, hown, hn => by
    obtain ⟨i0, hi, hz0, hz1, hz2⟩ := info_parts info27j
    have HO := Lib.hid hown
    show Calls Try.prog 28 #[.agg #[dN p, .int .i32 l], .int .u8 op, v] w (Gathered B (xs ++ [(dN p, l)]) w)
    unfold dN
    simp only [Tr.sz] at hn
    clear hown
    go_enter Try.func28, Try.ntmps28
    go_wp2_with (at_builtin; refine wpList_append_own _ rfl (.tmp 39) (.tmp 41) 43 rfl B 27 i0 _ 2 24 Try.underlying43 hi hz0 hz1 hz2 rfl (by decide) _ _ _ rfl ((HO.out.alloc _).alloc _) ⟨w.heap.size + 1, 0, none⟩ 1 1 [.iface 47 (.pointer (some ⟨p, 0, none⟩)), .int .i32 l] rfl rfl (cell_two (RowAt.newAt (by simp))) ?_ ?_ ?_ ?_ ?_)
    · intro u hu
      simp at hu
      rcases hu with rfl | rfl <;> rfl
    · unfold maxLen; omega
    · omega
    · go_size
    intro v' w2 hown' hg _
    have HE := Lib.hid (gather_end (x := (dN p, l)) (by go_grown) hB ((HO.out.alloc _).alloc _) hown' hg)
    clear hown' hg hi hz0 hz1 hz2 i0
    go_wp2_with fail
    go_ret
    exact ⟨v', rfl, HE.out⟩
  | .bin p l o g a b, B, v, xs, w, hat, hB, hown, hn => by
    obtain ⟨hr, hta, htb⟩ := hat
    have r0 := hr.cellv (j := 0) (v := a.d) rfl
    have r1 := hr.cellv (j := 1) (v := .int .i32 a.l) rfl
    have r2 := hr.cellv (j := 2) (v := b.d) rfl
    have r3 := hr.cellv (j := 3) (v := .int .i32 b.l) rfl
    have r4 := hr.cellv (j := 4) (v := .int .u8 o) rfl
    have hp := hr.lt
    have HO := Lib.hid hown
    have HTA := Lib.hid hta
    have HTB := Lib.hid htb
    have HR := Lib.hid hr
    simp only [Tr.sz] at hn
    clear hown hta htb hr
    by_cases hoo : o = op
    · have hob : (o == op) = true := by simpa using hoo
      have HLV : Hid (Tr.leaves op (.bin p l o g a b) = a.leaves op ++ b.leaves op) := if_pos hoo
      clear hoo
      have hal := a.leaves_len op
      show Calls Try.prog 28 #[.agg #[dB p, .int .i32 l], .int .u8 op, v] w (Gathered B (xs ++ Tr.leaves op (.bin p l o g a b)) w)
      unfold dB
      go_enter Try.func28, Try.ntmps28
      go_wp2_with fail
      refine (collect op a B v xs (w.alloc (.cells #[.iface 50 (.pointer (some ⟨p, 0, none⟩)), .int .i32 l] 27)) (HTA.out.kept (K5.later (by go_grown))) (by go_size) (HO.out.alloc _) (by omega)).mono ?_
      rintro e w1 ⟨v1, rfl, o1, k1, b1⟩
      have K1 : K5 0 w w1 := (K5.later (by go_grown)).trans k1
      have B1 : Below B w w1 := Below.trans (by go_grown) b1
      have R1 := K1 p _ (Nat.zero_le _) HR.out
      have q2 := R1.cellv (j := 2) (v := b.d) rfl
      have q3 := R1.cellv (j := 3) (v := .int .i32 b.l) rfl
      have O1 := Lib.hid o1
      clear o1 k1 b1 R1 r0 r1 r2 r3 r4
      go_wp2_with fail
      refine (collect op b B v1 (xs ++ a.leaves op) _ (HTB.out.kept K1) (Nat.le_trans hB B1.size) O1.out (by rw [List.length_append]; omega)).mono ?_
      rintro e w2 ⟨v2, rfl, o2, k2, b2⟩
      have HE : Hid (w2.ownsRow B 27 2 v2 (xs ++ Tr.leaves op (.bin p l o g a b)).length (flat (xs ++ Tr.leaves op (.bin p l o g a b)))) := by
        unfold Hid
        rw [HLV.out, ← List.append_assoc]
        exact o2
      have HK := Lib.hid (K1.trans k2)
      have HB2 := Lib.hid (B1.trans b2)
      clear o2 k2 b2 K1 B1 q2 q3
      go_wp2_with fail
      go_ret
      exact ⟨v2, rfl, HE.out, HK.out, HB2.out⟩
    · have hob : (o == op) = false := by simpa using hoo
      have HLV : Hid (Tr.leaves op (.bin p l o g a b) = [(dB p, l)]) := if_neg hoo
      clear hoo
      obtain ⟨i0, hi, hz0, hz1, hz2⟩ := info_parts info27j
      rw [HLV.out]
      show Calls Try.prog 28 #[.agg #[dB p, .int .i32 l], .int .u8 op, v] w (Gathered B (xs ++ [(dB p, l)]) w)
      unfold dB
      go_enter Try.func28, Try.ntmps28
      go_wp2_with (at_builtin; refine wpList_append_own _ rfl (.tmp 39) (.tmp 41) 43 rfl B 27 i0 _ 2 24 Try.underlying43 hi hz0 hz1 hz2 rfl (by decide) _ _ _ rfl ((HO.out.alloc _).alloc _) ⟨w.heap.size + 1, 0, none⟩ 1 1 [.iface 50 (.pointer (some ⟨p, 0, none⟩)), .int .i32 l] rfl rfl (cell_two (RowAt.newAt (by simp))) ?_ ?_ ?_ ?_ ?_)
      · intro u hu
        simp at hu
        rcases hu with rfl | rfl <;> rfl
      · unfold maxLen; omega
      · omega
      · go_size
      intro v' w2 hown' hg _
      have HE := Lib.hid (gather_end (x := (dB p, l)) (by go_grown) hB ((HO.out.alloc _).alloc _) hown' hg)
      clear hown' hg hi hz0 hz1 hz2 i0 r0 r1 r2 r3 r4
      go_wp2_with fail
      go_ret
      exact ⟨v', rfl, HE.out⟩

end Go.Proofs.Ytailfkedgdlldac
