import Derived.Test.YtidicogmfpfibaaFmtKit
import Derived.Test.YtidicogmfpfibaaFmtIsH
namespace Go.Proofs.YtidicogmfpfibaaFmt
open Go.ChangeShapes Go.WideShapes Go.ChangeAt Go.RowKit
set_option linter.unusedVariables false
set_option maxRecDepth 100000
set_option maxHeartbeats 2000000

open Go.MuLone Go.Extern.Stop Go.Stop Go.Extern
def WhyIs (p k mu he ms sc ts : Nat) (fm kd : Int) (B : Nat) (W : World) (e : Ending) (W' : World) : Prop := ∃ wh na nl nc, e = .returned (.tuple #[.string wh, .slice na nl nc]) ∧ PS p k mu he ms sc ts fm kd W' ∧ Fp p W W' ∧ Below B W W'
theorem atTrk0 : At trkV (trkL 0) := by
  unfold trkL
  repeat (refine List.forall_mem_cons.2 ⟨by kernel_rfl, ?_⟩)
  exact List.forall_mem_nil _
theorem ps_kd {p k mu he ms sc ts : Nat} {fm kd : Int} {W : World} (h : PS p k mu he ms sc ts fm kd W) : W.cell? ⟨sc, 14, none⟩ = some (.int .u8 kd) ∧ sc < W.heap.size ∧ p < W.heap.size ∧ ts < W.heap.size ∧ W.cell? ⟨p, 13, none⟩ = some (.pointer (some ⟨ts, 0, none⟩)) := by
  obtain ⟨cs, b, r, h1, h2, h3, ⟨ss, rs, h4⟩, tt, rt, h5⟩ := h
  exact ⟨rs.cellv (h4.get 1 rfl), rs.lt, r.lt, rt.lt, r.cellv (h3.get 6 rfl)⟩
set_option maxHeartbeats 4000000 in
theorem why15_2 (p k mu he ms sc ts : Nat) (fm : Int) (B : Nat) (hB : B ≤ p) (W : World) (h : PS p k mu he ms sc ts fm 2 W) : Calls Tryf.prog 15 #[.pointer (some ⟨p, 0, none⟩), .pointer (some ⟨sc, 0, none⟩)] W (WhyIs p k mu he ms sc ts fm 2 B W) := by
  obtain ⟨c1, hs, hp, ht, c2⟩ := ps_kd h
  have HS := Lib.hid h
  clear h c2
  go_enter Tryf.func15, Tryf.ntmps15
  go_upto_region 4 with (fail)
  refine reg_conv rg15_4 (by kernel_rfl) ?_
  refine rgn15_4 (fun c a d v w h => by cases d <;> exact h) p k mu he ms sc ts fm 2 B W hB HS.out (fun g n W2 h1 h2 h3 => ?_)
  have H2 := Lib.hid (And.intro h1 (And.intro h2 h3))
  clear h1 h2 h3 c1
  go_wp2_with fail
  refine bodyPost_ret (v := .tuple #[.string _, .slice (some ⟨n, 0, none⟩) 1 1]) (by simp [results, Tryf.results15, go_sem]; rfl) rfl ?_
  exact ⟨_, _, _, _, rfl, H2.out⟩
set_option maxHeartbeats 4000000 in
theorem why15_1 (p k mu he ms sc ts : Nat) (fm : Int) (B : Nat) (hB : B ≤ p) (W : World) (h : PS p k mu he ms sc ts fm 1 W) : Calls Tryf.prog 15 #[.pointer (some ⟨p, 0, none⟩), .pointer (some ⟨sc, 0, none⟩)] W (WhyIs p k mu he ms sc ts fm 1 B W) := by
  obtain ⟨c1, hs, hp, ht, c2⟩ := ps_kd h
  have HS := Lib.hid h
  clear h c2
  go_enter Tryf.func15, Tryf.ntmps15
  go_upto_region 12 with (fail)
  refine reg_conv rg15_12 (by kernel_rfl) ?_
  refine rgn15_12 (fun c a d v w h => by cases d <;> exact h) p k mu he ms sc ts fm 1 B W hB HS.out (fun g n W2 h1 h2 h3 => ?_)
  have H2 := Lib.hid (And.intro h1 (And.intro h2 h3))
  clear h1 h2 h3 c1
  go_wp2_with fail
  refine bodyPost_ret (v := .tuple #[.string _, .slice (some ⟨n, 0, none⟩) 1 1]) (by simp [results, Tryf.results15, go_sem]; rfl) rfl ?_
  exact ⟨_, _, _, _, rfl, H2.out⟩
set_option maxHeartbeats 4000000 in
theorem why15_5 (p k mu he ms sc ts : Nat) (fm : Int) (B : Nat) (hB : B ≤ p) (W : World) (h : PS p k mu he ms sc ts fm 5 W) : Calls Tryf.prog 15 #[.pointer (some ⟨p, 0, none⟩), .pointer (some ⟨sc, 0, none⟩)] W (WhyIs p k mu he ms sc ts fm 5 B W) := by
  obtain ⟨c1, hs, hp, ht, c2⟩ := ps_kd h
  have HS := Lib.hid h
  clear h c2
  go_enter Tryf.func15, Tryf.ntmps15
  go_upto_region 10 with (fail)
  refine reg_conv rg15_10 (by kernel_rfl) ?_
  refine rgn15_10 (fun c a d v w h => by cases d <;> exact h) p k mu he ms sc ts fm 5 B W hB HS.out (fun g n W2 h1 h2 h3 => ?_)
  have H2 := Lib.hid (And.intro h1 (And.intro h2 h3))
  clear h1 h2 h3 c1
  go_wp2_with fail
  refine bodyPost_ret (v := .tuple #[.string _, .slice (some ⟨n, 0, none⟩) 2 2]) (by simp [results, Tryf.results15, go_sem]; rfl) rfl ?_
  exact ⟨_, _, _, _, rfl, H2.out⟩
set_option maxHeartbeats 4000000 in
theorem why15_3 (p k mu he ms sc ts : Nat) (fm : Int) (B : Nat) (hB : B ≤ p) (W : World) (h : PS p k mu he ms sc ts fm 3 W) : Calls Tryf.prog 15 #[.pointer (some ⟨p, 0, none⟩), .pointer (some ⟨sc, 0, none⟩)] W (WhyIs p k mu he ms sc ts fm 3 B W) := by
  obtain ⟨c1, hs, hp, ht, c2⟩ := ps_kd h
  have HS := Lib.hid h
  clear h c2
  go_enter Tryf.func15, Tryf.ntmps15
  go_wp2_with fail
  refine (esm28 p k mu he ms sc ts fm 3 W HS.out).mono ?_
  rintro e1 w1 ⟨rfl, rfl⟩
  go_wp2_with fail
  refine bodyPost_ret (v := .tuple #[.string _, .slice none 0 0]) (by simp [results, Tryf.results15, go_sem]; rfl) rfl ?_
  exact ⟨_, _, _, _, rfl, HS.out, Fp.refl _ _, Below.refl _ _⟩
set_option maxHeartbeats 4000000 in
theorem why15_4 (F : Interp) (p k mu he ms sc ts : Nat) (fm : Int) (B : Nat) (hB : B ≤ p) (W : World) (hF : F.answers W.tape) (h : PS p k mu he ms sc ts fm 4 W) : Calls Tryf.prog 15 #[.pointer (some ⟨p, 0, none⟩), .pointer (some ⟨sc, 0, none⟩)] W (WhyIs p k mu he ms sc ts fm 4 B W) := by
  obtain ⟨c1, hs, hp, ht, c2⟩ := ps_kd h
  have HS := Lib.hid (And.intro h hF)
  obtain ⟨_, _, _, _, _, _, _, tt, rt, h5⟩ := h
  have HT := Lib.hid (And.intro rt h5)
  clear rt h5 hF
  go_enter Tryf.func15, Tryf.ntmps15
  go_wp2_with fail
  refine (mk13 ts 1 181 tt W HT.out.1 (HT.out.2.get 1 rfl) (HT.out.2.get 2 rfl) (HT.out.2.get 3 rfl)).mono ?_
  rintro e1 w1 ⟨rfl, hb1⟩
  have HB := Lib.hid hb1
  have rz : RowAt (w1.alloc (.cells #[.string ⟨#[]⟩, .string ⟨#[]⟩, .string ⟨#[]⟩, .int .i32 0, .int .i32 0, .int .i32 0, .int .i32 0, .bool false, .bool false, .bool false] 95)) w1.heap.size #[.string ⟨#[]⟩, .string ⟨#[]⟩, .string ⟨#[]⟩, .int .i32 0, .int .i32 0, .int .i32 0, .int .i32 0, .bool false, .bool false, .bool false] 95 := RowAt.new _ _ _
  have HZ := Lib.hid rz
  clear hb1 rz c1 c2
  go_upto_region 8 with (refine wpList_store_row rfl 95 _ _ rfl w1.heap.size trkV (by rfl) (by rfl) 95 _ HZ.out (by kernel_rfl) (by kernel_rfl) (by kernel_rfl) ?_)
  have r2 := row_setRow (ds := trkV) HZ.out
  have b2 : Below w1.heap.size w1 ((w1.alloc (.cells #[.string ⟨#[]⟩, .string ⟨#[]⟩, .string ⟨#[]⟩, .int .i32 0, .int .i32 0, .int .i32 0, .int .i32 0, .bool false, .bool false, .bool false] 95)).setRow w1.heap.size trkV) := below_setRow ((Below.refl _ _).alloc (Nat.le_refl _) _) (Nat.le_refl _) _
  generalize (w1.alloc (.cells #[.string ⟨#[]⟩, .string ⟨#[]⟩, .string ⟨#[]⟩, .int .i32 0, .int .i32 0, .int .i32 0, .int .i32 0, .bool false, .bool false, .bool false] 95)).setRow w1.heap.size trkV = w2 at r2 b2 ⊢
  have hz1 := HB.out.size
  have bb2 := HB.out.trans (b2.mono hz1)
  have HR := Lib.hid (And.intro r2 bb2)
  clear r2 b2 HZ
  generalize w1.heap.size = t7 at HR hz1 ⊢
  refine reg_conv rg15_8 (by kernel_rfl) ?_
  refine rgn15_8 F (fun c a d v w h => by cases d <;> exact h) p k mu he ms sc ts fm 4 W.heap.size t7 w2 hz1 (HR.out.2.tape ▸ HS.out.2) (HS.out.1.later HR.out.2) ⟨_, false, HR.out.1, atTrk0, by kernel_rfl⟩ (fun g n m tx W3 h1 h3 => ?_)
  have H3 := Lib.hid (And.intro h1 (HR.out.2.trans h3))
  clear h1 h3
  go_wp2_with fail
  refine bodyPost_ret (v := .tuple #[.string _, .slice (some ⟨n, 0, none⟩) 1 1]) (by simp [results, Tryf.results15, go_sem]; rfl) rfl ?_
  exact ⟨_, _, _, _, rfl, H3.out.1, Fp.below H3.out.2, H3.out.2.mono (by omega)⟩

end Go.Proofs.YtidicogmfpfibaaFmt
