import Derived.Test.YthmfjhadkmeldaaDoorKit
import Derived.Test.YthmfjhadkmeldaaDoorRow
import Derived.Test.YthmfjhadkmeldaaDoorRec
import Derived.Test.YthmfjhadkmeldaaDoorTsP
import Derived.Laws.IdiomStrings
namespace Go.Proofs.YthmfjhadkmeldaaDoor
open Go.ChangeShapes Go.WideShapes Go.ChangeAt Go.RowKit
set_option linter.unusedVariables false
set_option maxRecDepth 100000
set_option maxHeartbeats 2000000

open Go.Extern
/-- The bytes from place i on. -/
def Buf (w : World) (g : Nat) (E : TypeId) (N i : Nat) (L : List UInt8) : Prop := i + L.length = N ∧ ∃ cs, RowAt w g cs E ∧ cs.size = N ∧ ∀ j (h : j < L.length), cs[i + j]? = some (.int .u8 ((L[j]).toNat : Int))
theorem Buf.lt {w : World} {g N i : Nat} {E : TypeId} {L : List UInt8} (h : Buf w g E N i L) : g < w.heap.size := by
  obtain ⟨_, cs, r, _⟩ := h
  exact r.lt
theorem Buf.frozen {w : World} {g N i : Nat} {E : TypeId} {L : List UInt8} (h : Buf w g E N i L) (j : Nat) : w.frozen? ⟨g, j, none⟩ = false := by
  obtain ⟨_, cs, r, _⟩ := h
  exact r.frozen j
theorem Buf.old {w : World} {g N i : Nat} {E : TypeId} {L : List UInt8} (h : Buf w g E N i L) {j : Nat} (hj : j < N) : ∃ v, w.cell? ⟨g, j, none⟩ = some v := by
  obtain ⟨_, cs, r, hs, _⟩ := h
  exact ⟨_, r.cellv (Array.getElem?_eq_getElem (by omega))⟩
theorem Buf.push {w : World} {g N i : Nat} {E : TypeId} {L : List UInt8} (h : Buf w g E N (i + 1) L) (c : UInt8) : Buf (w.setCell ⟨g, i, none⟩ (.int .u8 (c.toNat : Int))) g E N i (c :: L) := by
  obtain ⟨h1, cs, r, hs, hc⟩ := h
  refine ⟨by simp only [List.length_cons]; omega, _, r.set i _, by simp [hs], fun j hj => ?_⟩
  cases j with
  | zero =>
    rw [Array.getElem?_setIfInBounds, Nat.add_zero, if_pos rfl, if_pos (by omega)]
    rfl
  | succ j =>
    rw [Array.getElem?_setIfInBounds, if_neg (by omega)]
    have := hc j (by simpa using hj)
    rw [show i + (j + 1) = i + 1 + j by omega]
    simpa using this
theorem Buf.kept {w w' : World} {g N i : Nat} {E : TypeId} {L : List UInt8} (h : Buf w g E N i L) (hb : Below w.heap.size w w') : Buf w' g E N i L := by
  obtain ⟨h1, cs, r, h2⟩ := h
  exact ⟨h1, cs, r.below hb r.lt, h2⟩
theorem Buf.text {w : World} {g N i cap : Nat} {E : TypeId} {L : List UInt8} (h : Buf w g E N i L) : (convert 30 9 (.slice (some ⟨g, i, none⟩) L.length cap)).run Tryd.prog w = .ok (.string ⟨L.toArray⟩) w := by
  obtain ⟨h1, cs, r, hs, hc⟩ := h
  exact run_convert_bytes_back (P := Tryd.prog) w 30 9 5 ⟨g, i, none⟩ cap L Tryd.underlying30 Tryd.underlying5 Tryd.underlying9 (fun j hj => by rw [addr_add]; exact r.cellv (hc j hj))
theorem index36 (W : World) (k : IntKind) (c : Nat) (h : c < 36) : (Instr.index 9 (.string dig36) (.int k (c : Int))).run Tryd.prog W = .ok (.int .u8 ((dgb c).toNat : Int)) W := by
  have hs : dig36.size = 36 := by decide
  rw [run_index_string W 9 dig36 k c Tryd.underlying9, dif_pos ⟨by omega, by rw [hs]; omega⟩]
  have e : (dig36[(c : Int).toNat]'(by rw [hs]; omega)) = dgb c := by
    have := dig36_at ⟨c, h⟩
    rw [← this]
    simp only [Int.toNat_natCast]
    show dig36.data[c] = _
    rw [Array.getElem?_eq_getElem (by have : dig36.data.size = 36 := hs; omega)]
    rfl
  rw [e]
noncomputable def PZ29 : Array Value := match (Tryd.prog.info? 29).bind (·.zero) with | some (.agg c) => c | _ => #[]
@[go_sem ↓] theorem zv29 (w : World) : (zeroValue 29).run Tryd.prog w = .ok (.agg PZ29) w := by kernel_rfl
theorem PZ29_size : PZ29.size = 80 := by kernel_rfl
noncomputable def PZ44 : Array Value := match (Tryd.prog.info? 44).bind (·.zero) with | some (.agg c) => c | _ => #[]
@[go_sem ↓] theorem zv44 (w : World) : (zeroValue 44).run Tryd.prog w = .ok (.agg PZ44) w := by kernel_rfl
theorem PZ44_size : PZ44.size = 65 := by kernel_rfl
theorem Buf.new (w : World) (cs : Array Value) (E : TypeId) (N : Nat) (h : cs.size = N) : Buf (w.alloc (.cells cs E)) w.heap.size E N N [] := ⟨rfl, cs, RowAt.new _ _ _, h, fun j hj => by cases hj⟩
theorem slice29 (g i : Nat) (h : i < 80) (W : World) : (Instr.sliceAt 29 (.pointer (some ⟨g, 0, none⟩)) (some (.int .i64 (i : Int))) none none).run Tryd.prog W = .ok (.slice (some ⟨g, i, none⟩) (80 - i) (80 - i)) W := by
  have hal : Tryd.prog.arrayLen 29 = 80 := by simp [Program.arrayLen, Tryd.underlying29]
  rw [run_sliceAt_array_l W 29 ⟨g, 0, none⟩ (by simp [Program.arrayLen, Program.elem, Tryd.underlying29]) .i64 (i : Int) (by omega) (by rw [hal]; omega)]
  rw [hal]
  go_simp
  omega
theorem slice44 (g i : Nat) (h : i < 65) (W : World) : (Instr.sliceAt 44 (.pointer (some ⟨g, 0, none⟩)) (some (.int .i64 (i : Int))) none none).run Tryd.prog W = .ok (.slice (some ⟨g, i, none⟩) (65 - i) (65 - i)) W := by
  have hal : Tryd.prog.arrayLen 44 = 65 := by simp [Program.arrayLen, Tryd.underlying44]
  rw [run_sliceAt_array_l W 44 ⟨g, 0, none⟩ (by simp [Program.arrayLen, Program.elem, Tryd.underlying44]) .i64 (i : Int) (by omega) (by rw [hal]; omega)]
  rw [hal]
  go_simp
  omega
set_option maxHeartbeats 4000000 in
theorem zz9pos (n b : Nat) (h0 : 0 < n) (h1 : n < 4294967296) (hb : 2 ≤ b) (hb2 : b ≤ 36) (w : World) :
    Calls Tryd.prog 9 #[.int .i64 (n : Int), .int .i64 (b : Int)] w fun e w' => e = .returned (.string ⟨(digB b n).toArray⟩) ∧ Below w.heap.size w w' := by
  have f0 : ((n : Int) == 0) = false := by simp; omega
  have f1 : ¬ (n : Int) < 0 := by omega
  go_enter Tryd.func9, Tryd.ntmps9
  go_wp2_with fail
  have HN := Buf.new w PZ29 29 80 PZ29_size
  have HB := (Below.refl w.heap.size w).alloc (Nat.le_refl _) (.cells PZ29 29)
  generalize w.alloc (.cells PZ29 29) = W at HN HB ⊢
  have HN' := Lib.hid (And.intro HN HB)
  clear HN HB
  go_loopw [0, 7] (fun v0 v7 wr => ∃ (u i : Nat) (L : List UInt8), v0 = .int .i64 (u : Int) ∧ v7 = .int .i64 (i : Int) ∧ 48 ≤ i ∧ i ≤ 80 ∧ u ≤ n ∧ u < 2 ^ (i - 48) ∧ digZ b u ++ L = digB b n ∧ Buf wr w.heap.size 29 80 i L ∧ Below w.heap.size w wr) (fun v0 _ _ => (intOf v0).toNat)
  case atStart => exact ⟨n, 80, [], rfl, rfl, by omega, by omega, Nat.le_refl _, h1, by unfold digZ; rw [if_neg (by omega), List.append_nil], HN'.out.1, HN'.out.2⟩
  case round =>
    obtain ⟨u, i, L, rfl, rfl, hi, hi2, hun, hu, hL, hBf, hbe⟩ := hrel
    have HX := Lib.hid (And.intro hu (And.intro hL (And.intro hBf hbe)))
    clear hu hL hBf hbe HN'
    by_cases hlt : 0 < u
    · obtain ⟨c, hc⟩ : ∃ c, u % b = c := ⟨_, rfl⟩
      obtain ⟨q, hq⟩ : ∃ q, u / b = q := ⟨_, rfl⟩
      have hc' : (u : Int) % (b : Int) = (c : Int) := by rw [← hc]; exact (Int.natCast_emod u b).symm
      have hq' : (u : Int) / (b : Int) = (q : Int) := by rw [← hq]; exact (Int.natCast_ediv u b).symm
      have hcb : c < 36 := by have := Nat.mod_lt u (show 0 < b by omega); omega
      have hidx := fun W => index36 W .i64 c hcb
      unfold dig36 at hidx
      obtain ⟨i', rfl⟩ : ∃ i', i = i' + 1 := ⟨i - 1, by omega⟩
      have hi3 : 48 ≤ i' := by
        have := HX.out.1
        by_cases e : i' + 1 = 48
        · rw [e] at this; omega
        · omega
      have hgl := HX.out.2.2.1.lt
      obtain ⟨y, hy⟩ := HX.out.2.2.1.old (j := i') (by omega)
      have hf := HX.out.2.2.1.frozen i'
      have HQ := Lib.hid (And.intro hc hq)
      have hqu : q < u := by rw [← hq]; exact Nat.div_lt_self hlt (by omega)
      clear hc hq
      go_wp2_with fail
      go_roundw
      case rel =>
        refine ⟨q, i', dgb c :: L, rfl, by go_num, by omega, by omega, by omega, ?_, ?_, HX.out.2.2.1.push _, HX.out.2.2.2.setCell (Nat.le_refl _) _⟩
        · rw [← HQ.out.2]
          exact div_pow hb (by rw [show i' - 48 + 1 = i' + 1 - 48 by omega]; exact HX.out.1)
        · rw [← HQ.out.2, ← HQ.out.1, digZ_step hb hlt]
          exact HX.out.2.1
      case measure => simp [intOf]; omega
    · obtain rfl : u = 0 := by omega
      have hL0 : L = digB b n := HX.out.2.1
      have htx := (HX.out.2.2.1).text (cap := 80 - i)
      have hll : L.length = 80 - i := by have := HX.out.2.2.1.1; omega
      have hpos : L ≠ [] := by
        rw [hL0, digB]
        split <;> simp
      have hi4 : i < 80 := by
        have := List.length_pos_iff.2 hpos
        omega
      rw [hll, hL0] at htx
      have hsl := slice29 w.heap.size i hi4
      clear hlt hL0 hll hpos
      go_wp2_with fail
      go_ret
      exact ⟨rfl, HX.out.2.2.2⟩
set_option maxHeartbeats 4000000 in
theorem zz9neg (n b : Nat) (h0 : 0 < n) (h1 : n < 4294967296) (hb : 2 ≤ b) (hb2 : b ≤ 36) (w : World) :
    Calls Tryd.prog 9 #[.int .i64 (-(n : Int)), .int .i64 (b : Int)] w fun e w' => e = .returned (.string ⟨(45 :: digB b n).toArray⟩) ∧ Below w.heap.size w w' := by
  have f0 : (-(n : Int) == 0) = false := by simp; omega
  have f1 : -(n : Int) < 0 := by omega
  go_enter Tryd.func9, Tryd.ntmps9
  go_wp2_with fail
  have HN := Buf.new w PZ29 29 80 PZ29_size
  have HB := (Below.refl w.heap.size w).alloc (Nat.le_refl _) (.cells PZ29 29)
  generalize w.alloc (.cells PZ29 29) = W at HN HB ⊢
  have HN' := Lib.hid (And.intro HN HB)
  clear HN HB
  go_loopw [0, 7] (fun v0 v7 wr => ∃ (u i : Nat) (L : List UInt8), v0 = .int .i64 (u : Int) ∧ v7 = .int .i64 (i : Int) ∧ 48 ≤ i ∧ i ≤ 80 ∧ u ≤ n ∧ u < 2 ^ (i - 48) ∧ digZ b u ++ L = digB b n ∧ Buf wr w.heap.size 29 80 i L ∧ Below w.heap.size w wr) (fun v0 _ _ => (intOf v0).toNat)
  case atStart => exact ⟨n, 80, [], rfl, rfl, by omega, by omega, Nat.le_refl _, h1, by unfold digZ; rw [if_neg (by omega), List.append_nil], HN'.out.1, HN'.out.2⟩
  case round =>
    obtain ⟨u, i, L, rfl, rfl, hi, hi2, hun, hu, hL, hBf, hbe⟩ := hrel
    have HX := Lib.hid (And.intro hu (And.intro hL (And.intro hBf hbe)))
    clear hu hL hBf hbe HN'
    by_cases hlt : 0 < u
    · obtain ⟨c, hc⟩ : ∃ c, u % b = c := ⟨_, rfl⟩
      obtain ⟨q, hq⟩ : ∃ q, u / b = q := ⟨_, rfl⟩
      have hc' : (u : Int) % (b : Int) = (c : Int) := by rw [← hc]; exact (Int.natCast_emod u b).symm
      have hq' : (u : Int) / (b : Int) = (q : Int) := by rw [← hq]; exact (Int.natCast_ediv u b).symm
      have hcb : c < 36 := by have := Nat.mod_lt u (show 0 < b by omega); omega
      have hidx := fun W => index36 W .i64 c hcb
      unfold dig36 at hidx
      obtain ⟨i', rfl⟩ : ∃ i', i = i' + 1 := ⟨i - 1, by omega⟩
      have hi3 : 48 ≤ i' := by
        have := HX.out.1
        by_cases e : i' + 1 = 48
        · rw [e] at this; omega
        · omega
      have hgl := HX.out.2.2.1.lt
      obtain ⟨y, hy⟩ := HX.out.2.2.1.old (j := i') (by omega)
      have hf := HX.out.2.2.1.frozen i'
      have HQ := Lib.hid (And.intro hc hq)
      have hqu : q < u := by rw [← hq]; exact Nat.div_lt_self hlt (by omega)
      clear hc hq
      go_wp2_with fail
      go_roundw
      case rel =>
        refine ⟨q, i', dgb c :: L, rfl, by go_num, by omega, by omega, by omega, ?_, ?_, HX.out.2.2.1.push _, HX.out.2.2.2.setCell (Nat.le_refl _) _⟩
        · rw [← HQ.out.2]
          exact div_pow hb (by rw [show i' - 48 + 1 = i' + 1 - 48 by omega]; exact HX.out.1)
        · rw [← HQ.out.2, ← HQ.out.1, digZ_step hb hlt]
          exact HX.out.2.1
      case measure => simp [intOf]; omega
    · obtain rfl : u = 0 := by omega
      have hL0 : L = digB b n := HX.out.2.1
      have hll : L.length = 80 - i := by have := HX.out.2.2.1.1; omega
      have hpos : L ≠ [] := by
        rw [hL0, digB]
        split <;> simp
      have hi4 : i < 80 := by
        have := List.length_pos_iff.2 hpos
        omega
      obtain ⟨i', rfl⟩ : ∃ i', i = i' + 1 := ⟨i - 1, by omega⟩
      have hgl := HX.out.2.2.1.lt
      obtain ⟨y, hy⟩ := HX.out.2.2.1.old (j := i') (by omega)
      have hf := HX.out.2.2.1.frozen i'
      have hpu : Buf (wr.setCell ⟨w.heap.size, i', none⟩ (.int .u8 45)) w.heap.size 29 80 i' (45 :: L) := HX.out.2.2.1.push 45
      have htx := hpu.text (cap := 80 - i')
      rw [List.length_cons, hll, hL0, show 80 - (i' + 1) + 1 = 80 - i' by omega] at htx
      have hsl := slice29 w.heap.size i' (by omega)
      clear hlt hL0 hll hpos hpu
      go_wp2_with fail
      go_ret
      exact ⟨rfl, HX.out.2.2.2.setCell (Nat.le_refl _) _⟩
theorem zz9zero (b : Nat) (w : World) : Calls Tryd.prog 9 #[.int .i64 0, .int .i64 (b : Int)] w fun e w' => e = .returned (.string ⟨(digB b 0).toArray⟩) ∧ Below w.heap.size w w' := by
  have : digB b 0 = [48] := by
    rw [digB, dif_pos (by omega)]
    rfl
  rw [this]
  go_enter Tryd.func9, Tryd.ntmps9
  go_wp2_with fail
  go_ret
  exact ⟨rfl, Below.refl _ _⟩

end Go.Proofs.YthmfjhadkmeldaaDoor
