import Derived.Test.YtgefhkjidldjlabKit
import Derived.Test.YtgefhkjidldjlabCareM
import Derived.Test.YtgefhkjidldjlabRow
namespace Go.Proofs.Ytgefhkjidldjlab.fnStmtsCareAboutScopeIsAnyOfTable
open Go.ChangeShapes Go.WideShapes Go.ChangeAt Go.RowKit
set_option linter.unusedVariables false
set_option maxRecDepth 100000
set_option maxHeartbeats 2000000

theorem info180 : (Try.prog.info? 180).map (fun i => (i.zero, i.size, i.bytes)) = some (some (.agg #[.nilIface, .int .i32 0]), 2, 24) := by kernel_rfl

/-- The first n of N statements of row R are as the codes say. -/
def Built (w : World) (R N n : Nat) (zs : List Int) : Prop :=
  ∃ cs : Array Value, RowAt w R cs 180 ∧ cs.size = N * 2 ∧ ∀ i, i < n → ∃ d l, cs[i * 2]? = some d ∧ cs[i * 2 + 1]? = some (.int .i32 l) ∧ Cares w R d (decide (20 ≤ zs.getD i 0 % 26))

theorem Cares.one {w : World} {R : Nat} {d : Value} {c : Bool} (h : Cares w R d c) : d.oneCell' = true := by
  rcases h with ⟨_, T, v, rfl, _⟩ | ⟨_, rfl⟩ | ⟨_, T, v, rfl, _⟩ | ⟨b, k, rfl, _⟩ <;> rfl

theorem Built.step {w w1 : World} {R N k : Nat} {zs : List Int} {d : Value} {l : Int} (h : Built w R N k zs) (hk : k < N) (hb : Below w.heap.size w w1) (hc : Cares w1 R d (decide (20 ≤ zs.getD k 0 % 26))) :
    Built ((w1.setCell ⟨R, k * 2, none⟩ d).setCell ⟨R, k * 2 + 1, none⟩ (.int .i32 l)) R N (k + 1) zs := by
  obtain ⟨cs, hr, hs, hx⟩ := h
  have hr1 := ((hr.below hb hr.lt).set (k * 2) d).set (k * 2 + 1) (.int .i32 l)
  have hkept : ∀ b, b ≠ R → b < w1.heap.size → ((w1.setCell ⟨R, k * 2, none⟩ d).setCell ⟨R, k * 2 + 1, none⟩ (.int .i32 l)).heap[b]? = w1.heap[b]? := by
    intro b h1 _
    rw [Below.heap_setCell _ _ _ _ h1, Below.heap_setCell _ _ _ _ h1]
  refine ⟨_, hr1, by simp [hs], fun i hi => ?_⟩
  by_cases hik : i = k
  · subst hik
    refine ⟨d, l, ?_, ?_, hc.kept hkept⟩
    · rw [Array.getElem?_setIfInBounds, if_neg (by omega), Array.getElem?_setIfInBounds, if_pos rfl, if_pos (by omega)]
    · rw [Array.getElem?_setIfInBounds, if_pos rfl, if_pos (by simp; omega)]
  · obtain ⟨d', l', e1, e2, e3⟩ := hx i (by omega)
    refine ⟨d', l', ?_, ?_, ?_⟩
    · rw [Array.getElem?_setIfInBounds, if_neg (by omega), Array.getElem?_setIfInBounds, if_neg (by omega)]; exact e1
    · rw [Array.getElem?_setIfInBounds, if_neg (by omega), Array.getElem?_setIfInBounds, if_neg (by omega)]; exact e2
    · have e4 : Cares w1 R d' _ := e3.kept (fun b _ hlt => hb.block b hlt)
      exact e4.kept hkept

theorem Built.below {w w' : World} {R N n : Nat} {zs : List Int} (h : Built w R N n zs) (hb : Below w.heap.size w w') : Built w' R N n zs := by
  obtain ⟨cs, hr, hs, hx⟩ := h
  refine ⟨cs, hr.below hb hr.lt, hs, fun i hi => ?_⟩
  obtain ⟨d', l', e1, e2, e3⟩ := hx i hi
  exact ⟨d', l', e1, e2, e3.kept (fun b _ hlt => hb.block b hlt)⟩

theorem build (x : Addr) (len cap : Nat) (zs : List Int) (w : World) (hn : len ≤ 65536) (hl : len ≤ cap) (hcell : ∀ i, i < len → w.cell? (x.add i) = some (.int .i8 (zs.getD i 0))) (hwf : ∀ i, i < len → -128 ≤ zs.getD i 0 ∧ zs.getD i 0 ≤ 127) :
    Calls Try.prog 12 #[.slice (some x) len cap] w fun e w' => e = .returned (.slice (some ⟨w.heap.size, 0, none⟩) len len) ∧ Built w' w.heap.size len len zs ∧ Below w.heap.size w w' := by
  obtain ⟨i0, hi, hz0, hz1, hz2⟩ := info_parts info180
  have hnil := fun W => Lib.run_eql_slice_nil (P := Try.prog) W 48 53 (some x) len cap 0 0 Try.underlying48
  have HC := Lib.hid hcell
  have HW := Lib.hid hwf
  clear hcell hwf
  go_enter Try.func12, Try.ntmps12
  go_wp2_with (at_make; refine wpList_make_full _ rfl _ _ 34 rfl w.heap.size 180 i0 _ 2 Try.underlying34 hi hz0 hz1 .i64 .i64 _ _ len rfl rfl rfl rfl (by rw [hz2]; omega) (by unfold maxLen; omega) (Nat.le_refl _) ?_; intro w1 hown hgrow)
  clear hi hz0 hz1 hz2 i0 hnil
  obtain ⟨cs0, hr0, hs0, _⟩ := RowAt.of_owns hown
  have hb1 : Below w.heap.size w w1 := (Below.refl _ _).grown hgrow (Nat.le_refl _) (fun k hk => by cases hk)
  have hB1 : Built w1 w.heap.size len 0 zs := ⟨cs0, hr0, by omega, fun i hi => by omega⟩
  clear hown hgrow hr0 hs0
  go_loopw [4] (fun v4 wr => ∃ k : Nat, k ≤ len ∧ v4 = .int .i64 k ∧ Built wr w.heap.size len k zs ∧ Below w.heap.size w wr) (fun v4 _ => len - (intOf v4).toNat)
  case atStart => exact ⟨0, Nat.zero_le _, rfl, hB1, hb1⟩
  case round =>
    obtain ⟨k, hk, rfl, hB, hb⟩ := hrel
    by_cases hlt : k < len
    · obtain ⟨z, hz⟩ : ∃ z, zs.getD k 0 = z := ⟨_, rfl⟩
      have hc := later (HC.out k hlt) hb
      have hw := HW.out k hlt
      rw [hz] at hc hw
      have HZ := Lib.hid hz
      obtain ⟨cs, hr, hs, hx⟩ := id hB
      have HX := Lib.hid hx
      have HBb := Lib.hid hB
      obtain ⟨x0, hx0⟩ : ∃ x0, cs[k * 2]? = some x0 := ⟨_, Array.getElem?_eq_getElem (by omega)⟩
      obtain ⟨x1, hx1⟩ : ∃ x1, cs[k * 2 + 1]? = some x1 := ⟨_, Array.getElem?_eq_getElem (by omega)⟩
      have hRlt := hr.lt
      have n0 : 0 ≤ z % 26 := by omega
      have n1 : z % 26 < 26 := by omega
      have HR := Lib.hid hr
      clear hz hx hB hr hs
      go_wp2_with fail
      refine (norm z _ hw.1 hw.2).mono ?_
      rintro e w2 ⟨rfl, rfl⟩
      go_wp2_with fail
      refine (make (z % 26) _ _ w.heap.size _ hRlt n0 n1).mono ?_
      rintro e w2 ⟨d, rfl, hd, h2⟩
      have q0 : w2.cell? ⟨w.heap.size, k * 2, none⟩ = some x0 := (HR.out.below h2 hRlt).cellv hx0
      have q1 : w2.cell? ⟨w.heap.size, k * 2 + 1, none⟩ = some x1 := (HR.out.below h2 hRlt).cellv hx1
      have q2 := (HR.out.below h2 hRlt).frozen (k * 2)
      have q3 := (HR.out.below h2 hRlt).frozen (k * 2 + 1)
      have hst := fun (A : Addr) (W : World) (m : Mode) => run_store Try.prog W A d m hd.one
      have HD := Lib.hid hd
      clear hx0 hx1 hd
      go_wp2
      go_roundw
      case rel =>
        refine ⟨k + 1, by omega, by go_num, ?_, ?_⟩
        · have e := HD.out
          rw [← HZ.out] at e
          exact HBb.out.step hlt h2 e
        · have h3 := hb.trans (h2.mono hb.size)
          have h4 := hb.size
          have h5 := h2.size
          go_grown
      case measure => simp [intOf]; omega
    · obtain rfl : k = len := by omega
      go_wp2
      go_ret
      exact ⟨rfl, hB, hb⟩

end Go.Proofs.Ytgefhkjidldjlab.fnStmtsCareAboutScopeIsAnyOfTable
