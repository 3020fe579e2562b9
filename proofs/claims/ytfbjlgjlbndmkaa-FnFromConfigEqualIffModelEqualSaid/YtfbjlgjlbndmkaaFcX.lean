import Derived.Test.YtfbjlgjlbndmkaaKit
import Derived.Test.YtfbjlgjlbndmkaaFnFromConfigEqualIffModelEqualW
import Derived.WideShapes
import Derived.ChangeShapes
import Derived.ChangeSame
import Derived.Deep.Strs
import Derived.ChangeArms
namespace Go.Proofs.Ytfbjlgjlbndmkaa.fnFromConfigEqualIffModelEqual
open Go.ChangeShapes Go.WideShapes Go.ChangeAt Go.RowKit
set_option linter.unusedVariables false
set_option maxRecDepth 100000
set_option maxHeartbeats 2000000

theorem at_some {α : Type} {xs : List α} {n i : Nat} (h : xs.length = n) (hi : i < n) : ∃ x, xs[i]? = some x := ⟨xs[i]'(by omega), by simp⟩
theorem open_cfg {H : Type} {enc : TypeId × Value → H} {W : World} {b0 : Nat} {v : Value} {d : DataW H} {p : List MemPlace} (hv : Value.okWide Try.prog W .any b0 26 v) (h : DataW.Trod enc Try.prog W 0 (fun _ => true) true 26 v d p) :
    ∃ (e : ByteArray) (f o m B : Int) (mn rn : Bool) (a : Option Addr) (n c : Nat) (Sa : Nat → ByteArray), v = .agg (CV e f o m B mn rn a n c) ∧ (0 ≤ B ∧ B < 65536) ∧ IsStrs W a n c Sa := by
  obtain ⟨cs, rfl, hsz⟩ := okWide_struct Try.underlying26 hv
  rw [show Try.prog.cellsOf 26 = 8 from by kernel_rfl] at hsz
  obtain ⟨l⟩ := cs
  match l, hsz with
  | [c0, c1, c2, c3, c4, c5, c6, c7], _ =>
  obtain ⟨fuel, hf⟩ := h
  obtain ⟨xs, n, _, _, _, hlen, hx⟩ := DataW.trod_struct Try.underlying26 hf
  have hlen' : xs.length = 8 := hlen
  obtain ⟨y0, hy0⟩ := at_some hlen' (i := 0) (by omega)
  obtain ⟨y1, hy1⟩ := at_some hlen' (i := 1) (by omega)
  obtain ⟨y2, hy2⟩ := at_some hlen' (i := 2) (by omega)
  obtain ⟨y3, hy3⟩ := at_some hlen' (i := 3) (by omega)
  obtain ⟨y4, hy4⟩ := at_some hlen' (i := 4) (by omega)
  obtain ⟨y5, hy5⟩ := at_some hlen' (i := 5) (by omega)
  obtain ⟨y6, hy6⟩ := at_some hlen' (i := 6) (by omega)
  obtain ⟨y7, hy7⟩ := at_some hlen' (i := 7) (by omega)
  have g0 : DataW.trod enc Try.prog W 0 (fun _ => true) true n 22 [c0] = some y0 := by simpa [show Try.prog.cellsOf 22 = 1 from by kernel_rfl, Value.cells] using (hx 0 _ rfl).trans hy0
  have g1 : DataW.trod enc Try.prog W 0 (fun _ => true) true n 9 [c1] = some y1 := by simpa [show Try.prog.cellsOf 9 = 1 from by kernel_rfl, Value.cells] using (hx 1 _ rfl).trans hy1
  have g2 : DataW.trod enc Try.prog W 0 (fun _ => true) true n 23 [c2] = some y2 := by simpa [show Try.prog.cellsOf 23 = 1 from by kernel_rfl, Value.cells] using (hx 2 _ rfl).trans hy2
  have g3 : DataW.trod enc Try.prog W 0 (fun _ => true) true n 23 [c3] = some y3 := by simpa [show Try.prog.cellsOf 23 = 1 from by kernel_rfl, Value.cells] using (hx 3 _ rfl).trans hy3
  have g4 : DataW.trod enc Try.prog W 0 (fun _ => true) true n 23 [c4] = some y4 := by simpa [show Try.prog.cellsOf 23 = 1 from by kernel_rfl, Value.cells] using (hx 4 _ rfl).trans hy4
  have g5 : DataW.trod enc Try.prog W 0 (fun _ => true) true n 4 [c5] = some y5 := by simpa [show Try.prog.cellsOf 4 = 1 from by kernel_rfl, Value.cells] using (hx 5 _ rfl).trans hy5
  have g6 : DataW.trod enc Try.prog W 0 (fun _ => true) true n 4 [c6] = some y6 := by simpa [show Try.prog.cellsOf 4 = 1 from by kernel_rfl, Value.cells] using (hx 6 _ rfl).trans hy6
  have g7 : DataW.trod enc Try.prog W 0 (fun _ => true) true n 24 [c7] = some y7 := by simpa [show Try.prog.cellsOf 24 = 1 from by kernel_rfl, Value.cells] using (hx 7 _ rfl).trans hy7
  obtain ⟨B, e0, _, wB⟩ := DataW.trod_int Try.underlying22 g0
  obtain ⟨e, e1, _, we⟩ := DataW.trod_string Try.underlying9 g1
  obtain ⟨f, e2, _, wf⟩ := DataW.trod_int Try.underlying23 g2
  obtain ⟨o, e3, _, wo⟩ := DataW.trod_int Try.underlying23 g3
  obtain ⟨m, e4, _, wm⟩ := DataW.trod_int Try.underlying23 g4
  obtain ⟨mn, e5, _⟩ := DataW.trod_bool Try.underlying4 g5
  obtain ⟨rn, e6, _⟩ := DataW.trod_bool Try.underlying4 g6
  simp [Value.cells] at e0 e1 e2 e3 e4 e5 e6
  subst e0 e1 e2 e3 e4 e5 e6
  have hB : 0 ≤ B ∧ B < 65536 := by
    simp [Lit.wf, IntKind.min, IntKind.max, IntKind.signed, IntKind.bits] at wB
    omega
  rcases Deep.open_strs Try.underlying24 Try.underlying9 (by kernel_rfl) g7 with ⟨hcs, _⟩ | ⟨x, l, c, mm, S, hcs, _, hl, hm, hmm, _, hcell⟩
  · simp [Value.cells] at hcs
    subst hcs
    exact ⟨e, f, o, m, B, mn, rn, none, 0, 0, fun _ => ByteArray.empty, rfl, hB, .inl ⟨rfl, rfl, rfl⟩⟩
  · simp [Value.cells] at hcs
    subst hcs
    simp only [if_true] at hmm
    subst hmm
    exact ⟨e, f, o, m, B, mn, rn, some x, l, _, S, rfl, hB, .inr ⟨x, rfl, hl, hm, hcell⟩⟩

end Go.Proofs.Ytfbjlgjlbndmkaa.fnFromConfigEqualIffModelEqual
