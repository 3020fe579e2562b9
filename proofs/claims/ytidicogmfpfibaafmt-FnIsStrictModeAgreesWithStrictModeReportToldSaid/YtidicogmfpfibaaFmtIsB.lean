import Derived.Test.YtidicogmfpfibaaFmtKit
import Derived.Test.YtidicogmfpfibaaFmtIsA
namespace Go.Proofs.YtidicogmfpfibaaFmt
open Go.ChangeShapes Go.WideShapes Go.ChangeAt Go.RowKit
set_option linter.unusedVariables false
set_option maxRecDepth 100000
set_option maxHeartbeats 2000000

open Go.MuLone
/-- The cells of a tracker over an empty text (the mark of its line's end apart). -/
def trkL (o : Nat) : List (Nat × Value) := [(o, .string ⟨#[]⟩), (o + 1, .string ⟨#[]⟩), (o + 2, .string ⟨#[]⟩), (o + 3, .int .i32 0), (o + 4, .int .i32 0), (o + 5, .int .i32 0), (o + 6, .int .i32 0), (o + 7, .bool true), (o + 9, .bool true)]
theorem trkL_set {cs : Array Value} {o : Nat} (h : At cs (trkL o)) (v : Value) : At (cs.setIfInBounds (o + 8) v) (trkL o) := h.set _ _ (by simp [trkL])
theorem scan52 (p o : Nat) (W : World) (h0 : W.cell? ⟨p, o, none⟩ = some (.string ⟨#[]⟩)) (h3 : W.cell? ⟨p, o + 3, none⟩ = some (.int .i32 0)) (hp : p < W.heap.size) :
    Calls Tryf.prog 52 #[.pointer (some ⟨p, o, none⟩), .int .i32 0] W fun e W' => e = .returned (.tuple #[]) ∧ W' = W := by
  go_enter Tryf.func52, Tryf.ntmps52
  go_wp2
  go_end0
  exact ⟨rfl, rfl⟩
def CompIs (p o t B : Nat) (cs : Array Value) (W : World) (e : Ending) (W' : World) : Prop := e = .returned (.tuple #[.int .i64 0, .int .i64 0, .int .i64 0, .int .i64 0]) ∧ RowAt W' p (cs.setIfInBounds (o + 8) (.bool true)) t ∧ Fp p W W' ∧ Below B W W'
set_option maxHeartbeats 4000000 in
theorem comp43 (p o t B : Nat) (b : Bool) (cs : Array Value) (W : World) (r : RowAt W p cs t) (hT : At cs (trkL o)) (hb : cs[o + 8]? = some (.bool b)) (hB : B ≤ p) :
    Calls Tryf.prog 43 #[.pointer (some ⟨p, o, none⟩), .int .i64 0] W (CompIs p o t B cs W) := by
  have hp := r.lt
  have fz : ∀ j, W.frozen? ⟨p, j, none⟩ = false := fun j => r.frozen j
  have c0 := r.cellv (hT.get 0 rfl)
  have c3 := r.cellv (hT.get 3 rfl)
  have c4 := r.cellv (hT.get 4 rfl)
  have c5 := r.cellv (hT.get 5 rfl)
  have c6 := r.cellv (hT.get 6 rfl)
  have c7 := r.cellv (hT.get 7 rfl)
  have c8 := r.cellv hb
  have HH := Lib.hid (And.intro r (And.intro hT hb))
  clear r hT hb
  cases b with
  | true =>
    go_enter Tryf.func43, Tryf.ntmps43
    go_wp2_with fail
    refine (scan52 p o _ c0 c3 hp).mono ?_
    rintro e w1 ⟨rfl, rfl⟩
    go_wp2_with fail
    go_quiet (fail)
    go_wp2_with fail
    refine bodyPost_ret (v := .tuple #[.int .i64 0, .int .i64 0, .int .i64 0, .int .i64 0]) (by simp [results, Tryf.results43, go_sem]) rfl ?_
    exact ⟨rfl, by rw [set_same HH.out.2.2]; exact HH.out.1, fun _ _ _ _ r => r.drewN _, below_drewN (Below.refl _ _) _⟩
  | false =>
    go_enter Tryf.func43, Tryf.ntmps43
    go_wp2_with fail
    refine (scan52 p o _ c0 c3 hp).mono ?_
    rintro e w1 ⟨rfl, rfl⟩
    go_wp2_with fail
    refine wp_loop_once ?_
    go_wp2_with fail
    have r1 := HH.out.1.set (o + 8) (.bool true)
    have r2 := r1.set (o + 6) (.int .i32 0)
    rw [set_same ((trkL_set HH.out.2.1 _).get 6 rfl)] at r2
    have hB2 : Below B w1 ((w1.setCell ⟨p, o + 8, none⟩ (.bool true)).setCell ⟨p, o + 6, none⟩ (.int .i32 0)) := ((Below.refl _ _).setCell hB _).setCell hB _
    have hF2 : Fp p w1 ((w1.setCell ⟨p, o + 8, none⟩ (.bool true)).setCell ⟨p, o + 6, none⟩ (.int .i32 0)) := (Fp.set p _ _ _).trans (Fp.set p _ _ _)
    have hT2 := trkL_set HH.out.2.1 (.bool true)
    generalize (w1.setCell ⟨p, o + 8, none⟩ (.bool true)).setCell ⟨p, o + 6, none⟩ (.int .i32 0) = w2 at r2 hB2 hF2 ⊢
    clear c0 c3 c4 c5 c6 c7 c8 fz r1
    have c4 := r2.cellv (hT2.get 4 rfl)
    have c5 := r2.cellv (hT2.get 5 rfl)
    have c6 := r2.cellv (hT2.get 6 rfl)
    have H2 := Lib.hid (And.intro r2 (And.intro hB2 hF2))
    clear r2 hB2 hF2 hT2
    go_quiet (fail)
    go_wp2_with fail
    refine bodyPost_ret (v := .tuple #[.int .i64 0, .int .i64 0, .int .i64 0, .int .i64 0]) (by simp [results, Tryf.results43, go_sem]) rfl ?_
    exact ⟨rfl, H2.out.1.drewN _, fun g cs t hg r => (H2.out.2.2 g cs t hg r).drewN _, below_drewN H2.out.2.1 _⟩

end Go.Proofs.YtidicogmfpfibaaFmt
