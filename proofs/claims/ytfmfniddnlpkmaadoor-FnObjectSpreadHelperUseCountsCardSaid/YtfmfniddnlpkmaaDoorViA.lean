import Derived.Test.YtfmfniddnlpkmaaDoorKit
import Derived.Test.YtfmfniddnlpkmaaDoorCuC
namespace Go.Proofs.YtfmfniddnlpkmaaDoor
open Go.ChangeShapes Go.WideShapes Go.ChangeAt Go.RowKit
set_option linter.unusedVariables false
set_option maxRecDepth 100000
set_option maxHeartbeats 2000000

theorem info23 : (Tryd.prog.info? 23).map (fun i => (i.zero, i.size, i.bytes)) = some (some (.int .u32 0), 1, 4) := by kernel_rfl
theorem build184z (w : World) : (Instr.build 184 #[]).run Tryd.prog w = .ok (.agg PZ184) w := by kernel_rfl
theorem build198z (w : World) : (Instr.build 198 #[]).run Tryd.prog w = .ok (.agg #[.pointer none, .pointer none, .slice none 0 0, .map none, .slice none 0 0, .slice none 0 0, .int .i32 0, .int .i32 0, .int .u32 0, .int .u32 0, .bool false, .bool false, .bool false, .bool false, .int .u8 0, .int .u8 0]) w := by kernel_rfl
theorem build188z (w : World) : (Instr.build 188 #[]).run Tryd.prog w = .ok (.agg #[.map none, .map none]) w := by kernel_rfl
theorem heap_set {w : World} {p k j : Nat} {v : Value} (h : j ≠ p) : (w.setCell ⟨p, k, none⟩ v).heap[j]? = w.heap[j]? := Below.heap_setCell _ _ _ _ h
theorem own_kept {w w' : World} {B n : Nat} {e : TypeId} {size : Nat} {v : Value} {xs : List Value} (h : w.ownsRow B e size v n xs) (hk : ∀ g, v.ownBlock = some g → w'.heap[g]? = w.heap[g]?) : w'.ownsRow B e size v n xs := by
  obtain ⟨h1, h2⟩ := h
  refine ⟨h1, ?_⟩
  rcases h2 with h2 | ⟨g, cap, cur, hv, hb, hh, h3⟩
  · exact .inl h2
  · exact .inr ⟨g, cap, cur, hv, hb, (hk g (by rw [hv]; rfl)).trans hh, h3⟩
theorem own_row {w : World} {B n g size : Nat} {e : TypeId} {v : Value} {xs : List Value} (h : w.ownsRow B e size v n xs) (hg : v.ownBlock = some g) : (∃ cs, RowAt w g cs e) ∧ B ≤ g := by
  rcases h.2 with ⟨rfl, _⟩ | ⟨g', cap, cur, rfl, hb, hh, _⟩
  · cases hg
  · have : g' = g := by simpa [Value.ownBlock] using hg
    subst this
    exact ⟨⟨cur, hh⟩, hb⟩

/-- What is known of the parser's cells. -/
structure PC (cs : Array Value) (src un mode fmt : Int) (ts : Bool) (vs vt : Value) (M : Nat) (m0 m1 : Int) : Prop where
  c23 : cs[23]? = some (.int .u64 un)
  c32 : cs[32]? = some (.bool ts)
  c34 : cs[34]? = some (.int .u8 mode)
  c36 : cs[36]? = some (.int .u8 fmt)
  c66 : cs[66]? = some (.int .u32 src)
  c105 : cs[105]? = some (.pointer none)
  c106 : cs[106]? = some vs
  c108 : cs[108]? = some vt
  c187 : cs[187]? = some (.pointer (some ⟨M, 0, none⟩))
  c298 : cs[298]? = some (.int .u32 m0)
  c299 : cs[299]? = some (.int .u32 m1)
  c350 : cs[350]? = some (.bool false)
/-- Nothing has been made yet. -/
def StA (w : World) (B p : Nat) (src un mode fmt : Int) (n : Nat) (ts : Bool) : Prop :=
  ∃ cs M ms S xs vt, RowAt w p cs 184 ∧ PC cs src un mode fmt ts (.slice (some ⟨S, 0, none⟩) n n) vt M 4294967295 4294967295 ∧ RowAt w M ms 198 ∧ ms[5]? = some (.slice none 0 0) ∧
    w.ownsRow B 59 10 (.slice (some ⟨S, 0, none⟩) n n) n xs ∧ (ts = true → ∃ us, w.ownsRow B 23 1 vt n us) ∧ B ≤ p ∧ B ≤ M
/-- The symbol is there, and has been used j times. -/
def StB (w : World) (B p : Nat) (src un mode fmt : Int) (n : Nat) (ts : Bool) (j : Nat) : Prop :=
  ∃ cs M ms S c ds vt G gc, RowAt w p cs 184 ∧ PC cs src un mode fmt ts (.slice (some ⟨S, 0, none⟩) (n + 1) c) vt M src n ∧ RowAt w M ms 198 ∧ ms[5]? = some (.slice (some ⟨G, 0, none⟩) 1 gc) ∧
    RowAt w S ds 59 ∧ ds[n * 10 + 4]? = some (.int .u32 j) ∧ (ts = true → ∃ U uc us x, vt = .slice (some ⟨U, 0, none⟩) (n + 1) uc ∧ RowAt w U us 23 ∧ us[n]? = some (.int .u32 x) ∧ B ≤ U) ∧ B ≤ p ∧ B ≤ M ∧ B ≤ S

def New6 (src un mode fmt : Int) (n : Nat) (ts : Bool) (w : World) (e : Ending) (w' : World) : Prop := ∃ p, e = .returned (.pointer (some ⟨p, 0, none⟩)) ∧ StA w' w.heap.size p src un mode fmt n ts ∧ Below w.heap.size w w'
theorem newF (src un mode fmt : Int) (n : Nat) (w : World) (hn : n ≤ 4096) (hI : IR w) : Calls Tryd.prog 6 #[.int .u32 src, .int .i64 n, .bool false, .int .u64 un, .int .u8 mode, .int .u8 fmt] w (New6 src un mode fmt n false w) := by
  obtain ⟨i0, hi, hz0, hz1, hz2⟩ := info_parts info59
  have zI : 0 < w.heap.size := cell_lt hI.1
  have HI := Lib.hid hI
  clear hI
  go_enter Tryd.func6, Tryd.ntmps6
  go_wp2_with (first
    | (refine wpList_build rfl 184 _ rfl #[] (by simp [Act.eval]) _ (build184z _) ?_)
    | (at_make; refine wpList_make_full _ rfl _ _ 44 rfl w.heap.size 59 i0 _ 10 Tryd.underlying44 hi hz0 hz1 .i64 .i64 _ _ n rfl rfl rfl rfl (by rw [hz2]; omega) (by unfold maxLen; omega) (by go_size) ?_))
  intro w1 hown hgrow
  have hb1 : Below (w.heap.size + 1) (w.alloc (.cells (PZ184.setIfInBounds 66 (.int .u32 src)) 184)) w1 := Below.grown (Below.refl _ _) hgrow (by simp) (fun k hk => by cases hk)
  have B1 := Lib.hid hb1
  have R1 := Lib.hid ((RowAt.new w (PZ184.setIfInBounds 66 (.int .u32 src)) 184).below hb1 (by omega))
  have HO := Lib.hid hown
  have hlt1 : w.heap.size + 1 < w1.heap.size := by
    obtain ⟨⟨es, e1⟩, _⟩ := own_row hown rfl
    have := e1.lt
    simpa using this
  obtain ⟨g0, g1⟩ := HI.out.below (Below.trans ((Below.refl _ _).alloc (Nat.le_refl _) _) (hb1.mono (by omega)))
  obtain ⟨w2, hw2⟩ : ∃ W, (((((w1.setCell ⟨w.heap.size, 106, none⟩ (.slice (some ⟨w.heap.size + 1, 0, none⟩) n n)).setCell ⟨w.heap.size, 32, none⟩ (.bool false)).setCell ⟨w.heap.size, 23, none⟩ (.int .u64 un)).setCell ⟨w.heap.size, 34, none⟩ (.int .u8 mode)).setCell ⟨w.heap.size, 36, none⟩ (.int .u8 fmt)) = W := ⟨_, rfl⟩
  have R2 := Lib.hid (hw2 ▸ ((((R1.out.set 106 (.slice (some ⟨w.heap.size + 1, 0, none⟩) n n)).set 32 (.bool false)).set 23 (.int .u64 un)).set 34 (.int .u8 mode)).set 36 (.int .u8 fmt))
  have hz2' : w.heap.size + 1 < w2.heap.size := by rw [← hw2]; simpa using hlt1
  have c106 := R1.out.cellv (j := 106) (v := .slice none 0 0) (set_ne (by decide) PZ184_106)
  have f106 := R1.out.frozen 106
  have c32 := R1.out.cellv (j := 32) (v := .bool false) (set_ne (by decide) PZ184_32)
  have f32 := R1.out.frozen 32
  have c23 := R1.out.cellv (j := 23) (v := .int .u64 0) (set_ne (by decide) PZ184_23)
  have f23 := R1.out.frozen 23
  have c34 := R1.out.cellv (j := 34) (v := .int .u8 0) (set_ne (by decide) PZ184_34)
  have f34 := R1.out.frozen 34
  have c36 := R1.out.cellv (j := 36) (v := .int .u8 0) (set_ne (by decide) PZ184_36)
  have f36 := R1.out.frozen 36
  have c17 := R2.out.cellv (j := 17) (v := .pointer none) (set_ne (by decide) (set_ne (by decide) (set_ne (by decide) (set_ne (by decide) (set_ne (by decide) (set_ne (by decide) PZ184_17))))))
  have f17 := R2.out.frozen 17
  have c187 := R2.out.cellv (j := 187) (v := .pointer none) (set_ne (by decide) (set_ne (by decide) (set_ne (by decide) (set_ne (by decide) (set_ne (by decide) (set_ne (by decide) PZ184_187))))))
  have f187 := R2.out.frozen 187
  have c298 := R2.out.cellv (j := 298) (v := .int .u32 0) (set_ne (by decide) (set_ne (by decide) (set_ne (by decide) (set_ne (by decide) (set_ne (by decide) (set_ne (by decide) PZ184_298))))))
  have f298 := R2.out.frozen 298
  have c299 := R2.out.cellv (j := 299) (v := .int .u32 0) (set_ne (by decide) (set_ne (by decide) (set_ne (by decide) (set_ne (by decide) (set_ne (by decide) (set_ne (by decide) PZ184_299))))))
  have f299 := R2.out.frozen 299
  have c292 := R2.out.cellv (j := 292) (v := .int .u32 0) (set_ne (by decide) (set_ne (by decide) (set_ne (by decide) (set_ne (by decide) (set_ne (by decide) (set_ne (by decide) PZ184_292))))))
  have f292 := R2.out.frozen 292
  have c293 := R2.out.cellv (j := 293) (v := .int .u32 0) (set_ne (by decide) (set_ne (by decide) (set_ne (by decide) (set_ne (by decide) (set_ne (by decide) (set_ne (by decide) PZ184_293))))))
  have f293 := R2.out.frozen 293
  have g0' : w2.cell? ⟨0, 0, none⟩ = some (.int .u32 4294967295) := by
    rw [← hw2]
    have hne : (0 : Nat) ≠ w.heap.size := by omega
    simp [World.cell?_setCell_other, hne, g0]
  have g1' : w2.cell? ⟨0, 1, none⟩ = some (.int .u32 4294967295) := by
    rw [← hw2]
    have hne : (0 : Nat) ≠ w.heap.size := by omega
    simp [World.cell?_setCell_other, hne, g1]
  have z2a : w.heap.size < w2.heap.size := by omega
  have z2b : w.heap.size < w2.heap.size + 1 := by omega
  have z2c : 0 < w2.heap.size := by omega
  have z2d : 0 < w2.heap.size + 1 := by omega
  have HZ2 := Lib.hid hz2'
  have HLT1 := Lib.hid hlt1
  have HW2 := Lib.hid hw2
  clear hz2' hlt1 hown hgrow hi hz0 hz1 hz2 i0 hb1 g0 g1 hw2
  go_wp2_with (first | (refine wpList_build rfl 188 _ rfl #[] (by simp [Act.eval]) _ (build188z _) ?_; rw [HW2.out]; clear c106 c32 c23 c34 c36 f106 f32 f23 f34 f36) | (refine wpList_build rfl 198 _ rfl #[] (by simp [Act.eval]) _ (build198z _) ?_))
  go_ret
  have Bz : Below w.heap.size w w2 := by
    rw [← HW2.out]
    exact (((((((Below.refl _ _).alloc (Nat.le_refl _) _).trans (B1.out.mono (by omega))).setCell (Nat.le_refl _) _).setCell (Nat.le_refl _) _).setCell (Nat.le_refl _) _).setCell (Nat.le_refl _) _).setCell (Nat.le_refl _) _
  have hO2 : w2.ownsRow w.heap.size 59 10 (.slice (some ⟨w.heap.size + 1, 0, none⟩) n n) n (madeCells (Value.agg #[.pointer none, .string ⟨#[]⟩, .int .u32 0, .int .u32 0, .int .u32 0, .int .u32 0, .int .u32 0, .int .u16 0, .int .u8 0, .int .u8 0]).cells (n * 10)).toList := by
    have h0 := HO.out
    refine own_kept h0 fun g hg => ?_
    have : w.heap.size + 1 = g := by simpa [Value.ownBlock] using hg
    subst this
    rw [← HW2.out]
    have hne : w.heap.size + 1 ≠ w.heap.size := by omega
    simp only [heap_set hne]
  refine ⟨w.heap.size, rfl, ⟨_, w2.heap.size + 1, _, w.heap.size + 1, _, .slice none 0 0, ((((((((R2.out.set 17 _).set 187 _).set 298 _).set 299 _).set 292 _).set 293 _).alloc _).alloc _), ?_, RowAt.newAt (by simp), rfl, own_kept hO2 fun g hg => ?_, (fun e => by cases e), Nat.le_refl _, by omega⟩, by go_grown⟩
  · constructor
    all_goals (repeat (first | (with_reducible exact set_eq (by simp)) | (with_reducible refine set_ne (by decide) ?_)))
    · exact PZ184_105
    · exact PZ184_108
    · exact PZ184_350
  · have : w.heap.size + 1 = g := by simpa [Value.ownBlock] using hg
    subst this
    have hne : w.heap.size + 1 ≠ w.heap.size := by omega
    have h2 := HZ2.out
    rw [Below.heap_alloc _ _ _ (by simp; omega), Below.heap_alloc _ _ _ (by simp; omega)]
    simp only [heap_set hne]

end Go.Proofs.YtfmfniddnlpkmaaDoor
