import Derived.Test.YtidicogmfpfibabFmtKit
import Derived.Test.YtidicogmfpfibabFmtMaJ
import Derived.Test.YtidicogmfpfibabFmtMaD
namespace Go.Proofs.YtidicogmfpfibabFmt
open Go.ChangeShapes Go.WideShapes Go.ChangeAt Go.RowKit
set_option linter.unusedVariables false
set_option maxRecDepth 100000
set_option maxHeartbeats 2000000

open Go.MuLone Go.Extern.Stop Go.Stop Go.Extern
/-- What marking leaves: nothing where the answer is false, one message with a location where it is true. -/
def MkIs19 (p k mu he ms : Nat) (un : Int) (B : Nat) (W : World) (e : Ending) (W' : World) : Prop :=
  (∃ r, e = .returned (.bool r) ∧ ((r = false ∧ LG B k mu he ms 1 (.slice none 0 0) 0 [] W') ∨ (r = true ∧ ∃ v g tx, LG B k mu he ms 1 v 1 ([] ++ msgV (.slice none 0 0) (.pointer (some ⟨g, 0, none⟩)) tx) W'))) ∧ PL p k mu he ms un W' ∧ Below B W W'
set_option maxHeartbeats 4000000 in
theorem mark19_8 (F : Interp) (s : ByteArray) (p k mu he ms : Nat) (un : Int) (st : Nat) (l : Int) (B : Nat) (W : World) (hB : B ≤ p) (hF : F.answers W.tape) (hT : TB B W) (hP : PM p k mu he ms un s W) (H : LG B k mu he ms 1 (.slice none 0 0) 0 [] W) (hst : st ≤ s.size) (hs : s.size ≤ 1048576) : Calls Tryf.prog 19 #[.pointer (some ⟨p, 0, none⟩), .int .u64 8, .agg #[.int .i32 ((st : Nat) : Int), .int .i32 l]] W (MkIs19 p k mu he ms un B W) := by
  obtain ⟨c18, c23, c25, hp⟩ := pm_opts hP
  have hz : B ≤ W.heap.size := H.hB
  have HH := Lib.hid (And.intro hP (And.intro H (And.intro hF hT)))
  clear hP H hF hT
  go_enter Tryf.func19, Tryf.ntmps19
  go_wp2_with fail
  refine (has18 un 8 _).mono ?_
  rintro e1 w1 ⟨b, rfl, rfl⟩
  have hb1 : Below W.heap.size W (W.alloc (.cells #[.int .i32 ((st : Nat) : Int), .int .i32 l] 54)) := (Below.refl _ _).alloc (Nat.le_refl _) _
  have HB1 := Lib.hid hb1
  clear hb1
  cases b with
  | false =>
    go_wp2_with fail
    go_ret
    exact ⟨⟨false, rfl, .inl ⟨rfl, HH.out.2.1.later HB1.out⟩⟩, (HH.out.1.later HB1.out).pl, HB1.out.mono hz⟩
  | true =>
    go_wp2_with fail
    refine reg_conv rg7 (by kernel_rfl) ?_
    refine rgn7 (fun c a d v w h => by cases d <;> exact h) p W.heap.size k mu he ms st un 8 l s _ (HH.out.1.later HB1.out) (fun wh W2 hW2 => ?_)
    have hb2 : Below W.heap.size W W2 := by rw [hW2]; exact below_drewN HB1.out 1
    have hq2 : RowAt W2 W.heap.size #[.int .i32 ((st : Nat) : Int), .int .i32 l] 54 := by rw [hW2]; exact (RowAt.new W _ 54).drewN 1
    have H2 := Lib.hid (And.intro hb2 hq2)
    clear hb2 hq2 hW2 c18 c23 c25
    go_upto_region 58 with (fail)
    refine reg_conv rg19_58 (by kernel_rfl) ?_
    refine rgn58_8 F decS (fun c a d v w h => by cases d <;> exact h) s p W.heap.size st k mu he ms un l wh B (.slice none 0 0) 0 [] W2 hB (H2.out.1.tape ▸ HH.out.2.2.1) (HH.out.2.2.2.below (H2.out.1.mono hz)) (HH.out.1.later H2.out.1) H2.out.2 (HH.out.2.1.later H2.out.1) hst hs (by omega) (fun m tx2 W3 hA => ?_)
    obtain ⟨_, v3, g3, l3, b3, p3, _⟩ := hA
    have H3 := Lib.hid (And.intro l3 (And.intro ((H2.out.1.mono hz).trans b3) p3))
    clear l3 b3 p3
    go_wp2_with fail
    go_ret
    exact ⟨⟨true, rfl, .inr ⟨rfl, v3, g3, tx2, H3.out.1⟩⟩, H3.out.2.2, H3.out.2.1⟩
set_option maxHeartbeats 4000000 in
theorem mark19_16 (F : Interp) (s : ByteArray) (p k mu he ms : Nat) (un : Int) (st : Nat) (l : Int) (B : Nat) (W : World) (hB : B ≤ p) (hF : F.answers W.tape) (hT : TB B W) (hP : PM p k mu he ms un s W) (H : LG B k mu he ms 1 (.slice none 0 0) 0 [] W) (hst : st ≤ s.size) (hs : s.size ≤ 1048576) : Calls Tryf.prog 19 #[.pointer (some ⟨p, 0, none⟩), .int .u64 16, .agg #[.int .i32 ((st : Nat) : Int), .int .i32 l]] W (MkIs19 p k mu he ms un B W) := by
  obtain ⟨c18, c23, c25, hp⟩ := pm_opts hP
  have hz : B ≤ W.heap.size := H.hB
  have HH := Lib.hid (And.intro hP (And.intro H (And.intro hF hT)))
  clear hP H hF hT
  go_enter Tryf.func19, Tryf.ntmps19
  go_wp2_with fail
  refine (has18 un 16 _).mono ?_
  rintro e1 w1 ⟨b, rfl, rfl⟩
  have hb1 : Below W.heap.size W (W.alloc (.cells #[.int .i32 ((st : Nat) : Int), .int .i32 l] 54)) := (Below.refl _ _).alloc (Nat.le_refl _) _
  have HB1 := Lib.hid hb1
  clear hb1
  cases b with
  | false =>
    go_wp2_with fail
    go_ret
    exact ⟨⟨false, rfl, .inl ⟨rfl, HH.out.2.1.later HB1.out⟩⟩, (HH.out.1.later HB1.out).pl, HB1.out.mono hz⟩
  | true =>
    go_wp2_with fail
    refine reg_conv rg7 (by kernel_rfl) ?_
    refine rgn7 (fun c a d v w h => by cases d <;> exact h) p W.heap.size k mu he ms st un 16 l s _ (HH.out.1.later HB1.out) (fun wh W2 hW2 => ?_)
    have hb2 : Below W.heap.size W W2 := by rw [hW2]; exact below_drewN HB1.out 1
    have hq2 : RowAt W2 W.heap.size #[.int .i32 ((st : Nat) : Int), .int .i32 l] 54 := by rw [hW2]; exact (RowAt.new W _ 54).drewN 1
    have H2 := Lib.hid (And.intro hb2 hq2)
    clear hb2 hq2 hW2 c18 c23 c25
    go_upto_region 58 with (fail)
    refine reg_conv rg19_58 (by kernel_rfl) ?_
    refine rgn58_16 F decS (fun c a d v w h => by cases d <;> exact h) s p W.heap.size st k mu he ms un l wh B (.slice none 0 0) 0 [] W2 hB (H2.out.1.tape ▸ HH.out.2.2.1) (HH.out.2.2.2.below (H2.out.1.mono hz)) (HH.out.1.later H2.out.1) H2.out.2 (HH.out.2.1.later H2.out.1) hst hs (by omega) (fun m tx2 W3 hA => ?_)
    obtain ⟨_, v3, g3, l3, b3, p3, _⟩ := hA
    have H3 := Lib.hid (And.intro l3 (And.intro ((H2.out.1.mono hz).trans b3) p3))
    clear l3 b3 p3
    go_wp2_with fail
    go_ret
    exact ⟨⟨true, rfl, .inr ⟨rfl, v3, g3, tx2, H3.out.1⟩⟩, H3.out.2.2, H3.out.2.1⟩
set_option maxHeartbeats 4000000 in
theorem mark10_false (F : Interp) (s : ByteArray) (p k mu he ms : Nat) (un : Int) (st : Nat) (l : Int) (B : Nat) (W : World) (hB : B ≤ p) (hF : F.answers W.tape) (hT : TB B W) (hP : PM p k mu he ms un s W) (H : LG B k mu he ms 1 (.slice none 0 0) 0 [] W) (hst : st ≤ s.size) (hs : s.size ≤ 1048576) : Calls Tryf.prog 10 #[.pointer (some ⟨p, 0, none⟩), .agg #[.int .i32 ((st : Nat) : Int), .int .i32 l], .bool false] W (MkIs19 p k mu he ms un B W) := by
  obtain ⟨c18, c23, c25, hp⟩ := pm_opts hP
  have hz : B ≤ W.heap.size := H.hB
  have HH := Lib.hid (And.intro hP (And.intro H (And.intro hF hT)))
  clear hP H hF hT c18 c25
  go_enter Tryf.func10, Tryf.ntmps10
  go_wp2_with fail
  refine (has18 un 536870912 _).mono ?_
  rintro e1 w1 ⟨b, rfl, rfl⟩
  have hb1 : Below W.heap.size W (W.alloc (.cells #[.int .i32 ((st : Nat) : Int), .int .i32 l] 54)) := (Below.refl _ _).alloc (Nat.le_refl _) _
  have HB1 := Lib.hid hb1
  clear hb1
  cases b with
  | false =>
    go_wp2_with fail
    go_ret
    exact ⟨⟨false, rfl, .inl ⟨rfl, HH.out.2.1.later HB1.out⟩⟩, (HH.out.1.later HB1.out).pl, HB1.out.mono hz⟩
  | true =>
    go_wp2_with fail
    refine (mark19_8 F s p k mu he ms un st l B _ hB (HB1.out.tape ▸ HH.out.2.2.1) (HH.out.2.2.2.below (HB1.out.mono hz)) (HH.out.1.later HB1.out) (HH.out.2.1.later HB1.out) hst hs).mono ?_
    rintro e2 w2 ⟨⟨r, rfl, hr⟩, p2, b2⟩
    have H2 := Lib.hid (And.intro hr (And.intro p2 ((HB1.out.mono hz).trans b2)))
    clear hr p2 b2
    go_wp2_with fail
    go_ret
    exact ⟨⟨r, rfl, H2.out.1⟩, H2.out.2⟩
set_option maxHeartbeats 4000000 in
theorem mark6_false (F : Interp) (s : ByteArray) (p k mu he ms : Nat) (un : Int) (st : Nat) (l : Int) (B : Nat) (W : World) (hB : B ≤ p) (hF : F.answers W.tape) (hT : TB B W) (hP : PM p k mu he ms un s W) (H : LG B k mu he ms 1 (.slice none 0 0) 0 [] W) (hst : st ≤ s.size) (hs : s.size ≤ 1048576) : Calls Tryf.prog 6 #[.pointer (some ⟨p, 0, none⟩), .int .i32 ((st : Nat) : Int), .int .i32 l, .bool false] W (MkIs19 p k mu he ms un B W) := by
  go_enter Tryf.func6, Tryf.ntmps6
  go_wp2_with fail
  refine (mark10_false F s p k mu he ms un st l B W hB hF hT hP H hst hs).mono ?_
  rintro e2 w2 ⟨⟨r, rfl, hr⟩, p2, b2⟩
  have H2 := Lib.hid (And.intro hr (And.intro p2 b2))
  clear hr p2 b2 hF hT hP H
  go_wp2_with fail
  go_ret
  exact ⟨⟨r, rfl, H2.out.1⟩, H2.out.2⟩
set_option maxHeartbeats 4000000 in
theorem mark10_true (F : Interp) (s : ByteArray) (p k mu he ms : Nat) (un : Int) (st : Nat) (l : Int) (B : Nat) (W : World) (hB : B ≤ p) (hF : F.answers W.tape) (hT : TB B W) (hP : PM p k mu he ms un s W) (H : LG B k mu he ms 1 (.slice none 0 0) 0 [] W) (hst : st ≤ s.size) (hs : s.size ≤ 1048576) : Calls Tryf.prog 10 #[.pointer (some ⟨p, 0, none⟩), .agg #[.int .i32 ((st : Nat) : Int), .int .i32 l], .bool true] W (MkIs19 p k mu he ms un B W) := by
  obtain ⟨c18, c23, c25, hp⟩ := pm_opts hP
  have hz : B ≤ W.heap.size := H.hB
  have HH := Lib.hid (And.intro hP (And.intro H (And.intro hF hT)))
  clear hP H hF hT c18 c25
  go_enter Tryf.func10, Tryf.ntmps10
  go_wp2_with fail
  refine (has18 un 536870912 _).mono ?_
  rintro e1 w1 ⟨b, rfl, rfl⟩
  have hb1 : Below W.heap.size W (W.alloc (.cells #[.int .i32 ((st : Nat) : Int), .int .i32 l] 54)) := (Below.refl _ _).alloc (Nat.le_refl _) _
  have HB1 := Lib.hid hb1
  clear hb1
  cases b with
  | false =>
    go_wp2_with fail
    go_ret
    exact ⟨⟨false, rfl, .inl ⟨rfl, HH.out.2.1.later HB1.out⟩⟩, (HH.out.1.later HB1.out).pl, HB1.out.mono hz⟩
  | true =>
    go_wp2_with fail
    refine (mark19_16 F s p k mu he ms un st l B _ hB (HB1.out.tape ▸ HH.out.2.2.1) (HH.out.2.2.2.below (HB1.out.mono hz)) (HH.out.1.later HB1.out) (HH.out.2.1.later HB1.out) hst hs).mono ?_
    rintro e2 w2 ⟨⟨r, rfl, hr⟩, p2, b2⟩
    have H2 := Lib.hid (And.intro hr (And.intro p2 ((HB1.out.mono hz).trans b2)))
    clear hr p2 b2
    go_wp2_with fail
    go_ret
    exact ⟨⟨r, rfl, H2.out.1⟩, H2.out.2⟩
set_option maxHeartbeats 4000000 in
theorem mark6_true (F : Interp) (s : ByteArray) (p k mu he ms : Nat) (un : Int) (st : Nat) (l : Int) (B : Nat) (W : World) (hB : B ≤ p) (hF : F.answers W.tape) (hT : TB B W) (hP : PM p k mu he ms un s W) (H : LG B k mu he ms 1 (.slice none 0 0) 0 [] W) (hst : st ≤ s.size) (hs : s.size ≤ 1048576) : Calls Tryf.prog 6 #[.pointer (some ⟨p, 0, none⟩), .int .i32 ((st : Nat) : Int), .int .i32 l, .bool true] W (MkIs19 p k mu he ms un B W) := by
  go_enter Tryf.func6, Tryf.ntmps6
  go_wp2_with fail
  refine (mark10_true F s p k mu he ms un st l B W hB hF hT hP H hst hs).mono ?_
  rintro e2 w2 ⟨⟨r, rfl, hr⟩, p2, b2⟩
  have H2 := Lib.hid (And.intro hr (And.intro p2 b2))
  clear hr p2 b2 hF hT hP H
  go_wp2_with fail
  go_ret
  exact ⟨⟨r, rfl, H2.out.1⟩, H2.out.2⟩
theorem pl_done {p k mu he ms : Nat} {un : Int} {W : World} (h : PL p k mu he ms un W) : W.cell? ⟨p, 54, none⟩ = some (.func (Fn.func 16) #[] #[.pointer (some ⟨mu, 0, none⟩), .pointer (some ⟨ms, 0, none⟩)]) ∧ p < W.heap.size := by
  obtain ⟨cs, r, h3⟩ := h
  exact ⟨r.cellv (h3.get 3 rfl), r.lt⟩
theorem msgs7 (B p k mu he ms n : Nat) (un : Int) (v : Value) (xs : List Value) (W : World) (H : LG B k mu he ms 1 v n xs W) (hP : PL p k mu he ms un W) (hD : ∀ W1, LG B k mu he ms 1 v n xs W1 → Calls Tryf.prog 16 #[.pointer (some ⟨mu, 0, none⟩), .pointer (some ⟨ms, 0, none⟩)] W1 (DoneIs B k mu he ms 1 v n xs W1)) :
    Calls Tryf.prog 7 #[.pointer (some ⟨p, 0, none⟩)] W (DoneIs B k mu he ms 1 v n xs W) := by
  obtain ⟨c54, hp⟩ := pl_done hP
  have HH := Lib.hid H
  clear H hP
  go_enter Tryf.func7, Tryf.ntmps7
  go_wp2_with fail
  refine (hD W HH.out).mono ?_
  rintro e1 w1 ⟨rfl, h1, h2, h3⟩
  have HE := Lib.hid (And.intro h1 (And.intro h2 h3))
  clear h1 h2 h3
  go_wp2_with fail
  go_ret
  exact ⟨rfl, HE.out⟩

end Go.Proofs.YtidicogmfpfibabFmt
