import Derived.Test.YtpehladamabedaaKit
import Derived.Test.YtpehladamabedaaDupP
namespace Go.Proofs.Ytpehladamabedaa.fnDupCheckerResetState
open Go.ChangeShapes Go.WideShapes Go.ChangeAt Go.RowKit
set_option linter.unusedVariables false
set_option maxRecDepth 100000
set_option maxHeartbeats 2000000

theorem u59 : Try.prog.underlying 59 = some (.array 32 5) := by kernel_rfl
theorem u5 : Try.prog.underlying 5 = some (.int .u8) := by kernel_rfl
theorem size5 (w : World) : (sizeOf 5).run Try.prog w = .ok 1 w := by kernel_rfl

/-- Two arrays of the same bytes are equal. -/
theorem eq59 (cs : Array Value) (w : World) (hv : ∀ i, i < 32 → ∃ z, cs[i]? = some (.int .u8 z)) :
    (Op.equalIn 10000 59 (.agg cs) (.agg cs)).run Try.prog w = .ok true w := by
  show (Op.equalIn (9998 + 2) 59 (.agg cs) (.agg cs)).run Try.prog w = .ok true w
  rw [Op.equalIn]
  simp only [Sem.run_bind, run_underlying u59, Result.andThen_ok, size5, Std.Legacy.Range.forIn_eq_forIn_range', Std.Legacy.Range.size, Nat.sub_zero, Nat.add_sub_cancel, Nat.div_one]
  have hl : ∀ i ∈ List.range' 0 32 1, i < 32 := fun i hi => by simpa using (List.mem_range'_1.1 hi).2
  generalize List.range' 0 32 1 = l at hl ⊢
  induction l with
  | nil => simp
  | cons i l ih =>
    have hi : i < 32 := hl i (by simp)
    obtain ⟨z, hz⟩ := hv i hi
    have px : (part 5 cs (i * 1)).run Try.prog w = .ok (.int .u8 z) w := by
      simp [part, isAgg, run_underlying u5, hz]
    have pe : (Op.equalIn (9998 + 1) 5 (.int .u8 z) (.int .u8 z)).run Try.prog w = .ok true w := by
      rw [run_equalIn_int w 9998 5 .u8 .u8 _ _ u5]
      simp
    simp only [List.forIn_cons, Sem.run_bind, px, pe, Result.andThen_ok]
    simp only [Bool.not_true, Bool.false_eq_true, if_false, Sem.run_pure, Result.andThen_ok]
    exact ih fun j hj => hl j (by simp [hj])
set_option maxHeartbeats 800000 in
theorem walkIn (n : Nat) (cs : Array Value) (w : World) (hn : n ≤ 65536) (hcs : cs.size = 32) (hone : cs.all (·.oneCell') = true) (hv : ∀ i, i < 32 → ∃ z, cs[i]? = some (.int .u8 z)) :
    Calls Try.prog 6 #[.int .i64 n, .agg cs] w fun e w' => e = .returned (.bool true) ∧ Below w.heap.size w w' := by
  have heq := fun W => eq59 cs W hv
  clear hv
  have h0 : ¬ (n : Int) < 0 := by omega
  have h1 : ¬ 65536 < (n : Int) := by omega
  have hi' : (Try.prog.info? 59).map (·.size) = some cs.size := by rw [hcs]; exact info59
  have hi2 : (Try.prog.info? 59).map (·.size) = some cs.toList.length := by rw [Array.length_toList, hcs]; exact info59
  have HI' := Lib.hid hi'
  have HI2 := Lib.hid hi2
  clear hi' hi2
  go_enter Try.func6, Try.ntmps6
  go_wp2_with (with_reducible refine wpList_load_row rfl 59 _ rfl w.heap.size rfl 59 cs (0, 0) _ (heap_alloc_new w _) Try.underlying59 rfl HI'.out ?_)
  refine (mk cs n _ hcs hone hn).mono ?_
  rintro e w1 ⟨b, g, rfl, hb, hr, B1⟩
  have HR := Lib.hid hr
  have R1 : RowAt w1 w.heap.size cs 59 := (RowAt.new w cs 59).below B1 (by go_size)
  have hb' : w.heap.size < b := by
    have : (w.alloc (.cells cs 59)).heap.size = w.heap.size + 1 := by go_size
    omega
  have hbl := hr.lt
  have D1 : Below w.heap.size w w1 := Below.trans (by go_grown) (B1.mono (by go_size))
  have HB1 := Lib.hid D1
  have HR1 := Lib.hid R1
  clear hr R1 B1 D1 hb
  go_wp2_with fail
  go_enter Try.func24, Try.ntmps24
  go_wp2_with fail
  refine (reset cs b g n n w1 hcs hone HR.out (Nat.le_refl _)).mono ?_
  rintro e w2 ⟨rfl, B2⟩
  have r2 : RowAt w2 b (#[.slice (some ⟨g, 0, none⟩) 0 n] ++ cs) 143 := by
    have := HR.out.set 0 (.slice (some ⟨g, 0, none⟩) 0 n)
    rw [Array.setIfInBounds_append_left (by simp)] at this
    exact RowAt.below this B2 hbl
  have R2 : RowAt w2 w.heap.size cs 59 := (HR1.out.set_other (by omega) _ _).below B2 HR1.out.lt
  have D2 : Below w.heap.size w w2 := HB1.out.trans (Below.trans (by go_grown) (B2.mono HB1.out.size))
  have K2 := Lib.hid r2
  have M2 := Lib.hid R2
  have E2 := Lib.hid D2
  clear HR HR1 HB1 B2 r2 R2 D2
  go_wp2_with fail
  have k2 := K2.out
  have m2 := M2.out
  have e2 := E2.out
  have u59 := Try.underlying59
  have hi2 := HI2.out
  have hl : cs.toList.length = 32 := by simpa using hcs
  have rg : ∀ W, RowAt W w.heap.size cs 59 → W.rangeAt w.heap.size 0 cs.toList := fun W h j v hv => h.cellv (by simpa using hv)
  have S2 : Hid (RowAt w2 b (#[.slice (some ⟨g, 0, none⟩) 0 n] ++ cs) 143 ∧ w2.rangeAt w.heap.size 0 cs.toList ∧ Below w.heap.size w w2) := ⟨k2, rg _ m2, e2⟩
  have rgB : ∀ W W', Below W.heap.size W W' → (RowAt W b (#[.slice (some ⟨g, 0, none⟩) 0 n] ++ cs) 143 ∧ W.rangeAt w.heap.size 0 cs.toList ∧ Below w.heap.size w W) → (RowAt W' b (#[.slice (some ⟨g, 0, none⟩) 0 n] ++ cs) 143 ∧ W'.rangeAt w.heap.size 0 cs.toList ∧ Below w.heap.size w W') :=
    fun W W' hB h => ⟨h.1.below hB h.1.lt, fun j v hv => later (h.2.1 j v hv) hB, h.2.2.trans (hB.mono h.2.2.size)⟩
  have RG := Lib.hid rgB
  clear rg rgB k2 m2 e2 K2 M2 E2
  go_region_held (fun W => RowAt W b (#[.slice (some ⟨g, 0, none⟩) 0 n] ++ cs) 143 ∧ W.rangeAt w.heap.size 0 cs.toList ∧ Below w.heap.size w W) (first | assumption | exact ⟨S2.out.1, S2.out.2.1, S2.out.2.2.trans (by go_grown)⟩ | (refine RG.out _ _ ?_ (by assumption); assumption))
    (first | (go_at_call 25; refine (len_ cs b (some ⟨g, 0, none⟩) 0 n _ (And.left (by assumption))).mono ?_; rintro e w' ⟨rfl, rfl⟩) | (go_at_call 26; refine (cap_ cs b (some ⟨g, 0, none⟩) 0 n _ (And.left (by assumption))).mono ?_; rintro e w' ⟨rfl, rfl⟩) | (go_at_call 27; refine (bloom_ cs b _ _ hcs hone (And.left (by assumption))).mono ?_; rintro e w3 ⟨rfl, B3⟩))
  all_goals (go_wp2_with fail)
  all_goals (go_ret)
  all_goals (refine ⟨rfl, ?_⟩; exact And.right (And.right ‹RowAt _ b (#[.slice (some ⟨g, 0, none⟩) 0 n] ++ cs) 143 ∧ World.rangeAt _ w.heap.size 0 cs.toList ∧ Below w.heap.size w _›))

end Go.Proofs.Ytpehladamabedaa.fnDupCheckerResetState
