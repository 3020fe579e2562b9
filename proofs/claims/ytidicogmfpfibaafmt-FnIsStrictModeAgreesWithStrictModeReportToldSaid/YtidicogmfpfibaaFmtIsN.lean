import Derived.Test.YtidicogmfpfibaaFmtKit
import Derived.Test.YtidicogmfpfibaaFmtIsL
import Derived.Test.YtidicogmfpfibaaFmtIsM
import Derived.Laws.OwnMore
namespace Go.Proofs.YtidicogmfpfibaaFmt
open Go.ChangeShapes Go.WideShapes Go.ChangeAt Go.RowKit
set_option linter.unusedVariables false
set_option maxRecDepth 100000
set_option maxHeartbeats 2000000

open Go.MuLone Go.Extern.Stop Go.Stop Go.Extern
def OneErr (W : World) (e : Ending) (W' : World) : Prop := ∃ g cap, e = .returned (.slice (some ⟨g, 0, none⟩) 1 cap) ∧ W'.cell? ⟨g, 6, none⟩ = some (.int .u8 0) ∧ Below W.heap.size W W'
theorem msgs7s (F : Interp) (ft kd fm : Int) (hk : kd = 1 ∨ kd = 2 ∨ kd = 3 ∨ kd = 4 ∨ kd = 5) (x : ByteArray) (W : World) (hF : F.answers W.tape) : Calls Tryf.prog 7 #[.int .u8 ft, .int .u8 kd, .int .u8 fm, .string x] W (OneErr W) := by
  have HF := Lib.hid hF
  clear hF
  go_enter Tryf.func7, Tryf.ntmps7
  go_wp2_with fail
  refine (newpar9 W W.heap.size (Nat.le_refl _) fm kd).mono ?_
  rintro e1 w1 ⟨p, k, mu, he, ms, sc, ts, rfl, l1, p1, hB, b1⟩
  have H1 := Lib.hid (And.intro p1 (And.intro b1 l1))
  clear l1 p1 b1
  go_wp2_with fail
  refine (mark10 F W.heap.size p k mu he ms sc ts fm kd hB hk ft x w1 (H1.out.2.1.tape ▸ HF.out) H1.out.2.2 H1.out.1).mono ?_
  rintro e2 w2 ⟨rfl, v, na, nl, nc, g, tx, l2, b2, p2⟩
  obtain ⟨c54, hp⟩ := ps_done p2
  have H2 := Lib.hid (And.intro l2 (H1.out.2.1.trans b2))
  clear l2 b2 p2
  go_wp2_with fail
  refine (done1 W.heap.size k mu he ms 0 v _ w2 H2.out.1).mono ?_
  rintro e3 w3 ⟨rfl, l3, b3, k3⟩
  obtain ⟨g3, c3, rfl⟩ := own_succ l3.own
  have q6 := l3.own.cellAt 6 (by omega)
  have H3 := Lib.hid (And.intro (show w3.cell? ⟨g3, 6, none⟩ = some (.int .u8 0) from q6) (H2.out.2.trans b3))
  clear l3 b3 k3 q6 c54
  go_wp2_with fail
  go_ret
  exact ⟨g3, c3, rfl, H3.out⟩
theorem msgs7n (F : Interp) (ft fm : Int) (hfm : fm ≠ 3) (x : ByteArray) (W : World) (hF : F.answers W.tape) : Calls Tryf.prog 7 #[.int .u8 ft, .int .u8 0, .int .u8 fm, .string x] W fun e W' => e = .returned (.slice none 0 0) ∧ Below W.heap.size W W' := by
  have HF := Lib.hid hF
  clear hF
  go_enter Tryf.func7, Tryf.ntmps7
  go_wp2_with fail
  refine (newpar9 W W.heap.size (Nat.le_refl _) fm 0).mono ?_
  rintro e1 w1 ⟨p, k, mu, he, ms, sc, ts, rfl, l1, p1, hB, b1⟩
  have H1 := Lib.hid (And.intro p1 (And.intro b1 l1))
  clear l1 p1 b1
  go_wp2_with fail
  refine (mark10n F W.heap.size p k mu he ms sc ts fm 0 hB rfl hfm ft x w1 (H1.out.2.1.tape ▸ HF.out) H1.out.2.2 H1.out.1).mono ?_
  rintro e2 w2 ⟨rfl, l2, b2, p2⟩
  obtain ⟨c54, hp⟩ := ps_done p2
  have H2 := Lib.hid (And.intro l2 (H1.out.2.1.trans b2))
  clear l2 b2 p2
  go_wp2_with fail
  refine (done0 W.heap.size k mu he ms 0 w2 H2.out.1).mono ?_
  rintro e3 w3 ⟨rfl, l3, b3, k3⟩
  have H3 := Lib.hid (H2.out.2.trans b3)
  clear l3 b3 k3 c54
  go_wp2_with fail
  go_ret
  exact ⟨rfl, H3.out⟩

end Go.Proofs.YtidicogmfpfibaaFmt
