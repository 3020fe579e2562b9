import Derived.Test.YtidicogmfpfibabFmtKit
import Derived.Test.YtidicogmfpfibabFmtMaF
import Derived.Test.YtidicogmfpfibabFmtBig
import Derived.Test.YtidicogmfpfibabFmtLaE
namespace Go.Proofs.YtidicogmfpfibabFmt
open Go.ChangeShapes Go.WideShapes Go.ChangeAt Go.RowKit
set_option linter.unusedVariables false
set_option maxRecDepth 100000
set_option maxHeartbeats 2000000

open Go.MuLone
noncomputable def A90 (s : ByteArray) (w : World) : Array Value := match (Instr.build 90 #[(2, .string s)]).run Tryf.prog w with | .ok (.agg c) _ => c | _ => #[]
theorem build90k (s : ByteArray) (w : World) : (Instr.build 90 #[(2, .string s)]).run Tryf.prog w = .ok (.agg (A90 s w)) w := by kernel_rfl
theorem build163k (w : World) : (Instr.build 163 #[]).run Tryf.prog w = .ok (.agg PZ163) w := by kernel_rfl
theorem LG.fp {B k mu he ms : Nat} {kd : Int} {v : Value} {n : Nat} {xs : List Value} {W W' : World} {p : Nat} {cs : Array Value} (H : LG B k mu he ms kd v n xs W) (r : RowAt W p cs 163) (hF : Fp p W W') (hz : W.heap.size ≤ W'.heap.size) : LG B k mu he ms kd v n xs W' :=
  { H with rk := hF _ _ _ (H.rk.diff r (by decide)) H.rk, rm := hF _ _ _ (H.rm.diff r (by decide)) H.rm, rh := by obtain ⟨b, h⟩ := H.rh; exact ⟨b, hF _ _ _ (h.diff r (by decide)) h⟩, rs := hF _ _ _ (H.rs.diff r (by decide)) H.rs, own := own_kept H.own fun g cs' r' => hF _ _ _ (r'.diff r (by decide)) r', hB := Nat.le_trans H.hB hz }
/-- What is asked of the cells of a parser beside its tracker: its log, its options. -/
def parL (k mu he ms : Nat) (un : Int) : List (Nat × Value) := [(51, (logV k mu he ms)[0]!), (52, (logV k mu he ms)[1]!), (53, (logV k mu he ms)[2]!), (54, (logV k mu he ms)[3]!), (55, (logV k mu he ms)[4]!), (56, (logV k mu he ms)[5]!), (18, .string ⟨#[]⟩), (23, .int .u64 un), (25, .int .u64 0)]
def PM (p k mu he ms : Nat) (un : Int) (s : ByteArray) (W : World) : Prop := ∃ cs, RowAt W p cs 163 ∧ At cs (tkL 67 s 0 0 0 0 false) ∧ cs[67 + 1]? = some (.string ⟨#[]⟩) ∧ cs[67 + 1 + 1]? = some (.string ⟨#[]⟩) ∧ At cs (parL k mu he ms un)
theorem PM.later {p k mu he ms : Nat} {un : Int} {s : ByteArray} {W W' : World} (h : PM p k mu he ms un s W) (hb : Below W.heap.size W W') : PM p k mu he ms un s W' := by
  obtain ⟨cs, r, h1⟩ := h
  exact ⟨cs, r.below hb r.lt, h1⟩
theorem log_size (k mu he ms : Nat) : (logV k mu he ms).size = 6 := rfl
theorem log_one (k mu he ms : Nat) : (logV k mu he ms).all (·.oneCell') = true := by simp [logV, Value.oneCell']
theorem log_info (k mu he ms : Nat) : (Tryf.prog.info? 81).map (·.size) = some (logV k mu he ms).size := by rw [log_size]; kernel_rfl
theorem trk_size (s : ByteArray) : (trkV s).size = 10 := rfl
theorem trk_one (s : ByteArray) : (trkV s).all (·.oneCell') = true := by simp [trkV, Value.oneCell']
theorem trk_info (s : ByteArray) : (Tryf.prog.info? 92).map (·.size) = some (trkV s).size := by rw [trk_size]; kernel_rfl
theorem src_size (s : ByteArray) (w : World) : (A90 s w).size = 10 := by kernel_rfl
theorem src_one (s : ByteArray) (w : World) : (A90 s w).all (·.oneCell') = true := by kernel_rfl
theorem src_info (s : ByteArray) (w : World) : (Tryf.prog.info? 90).map (·.size) = some (A90 s w).size := by rw [src_size]; kernel_rfl
noncomputable def c1 (un : Int) : Array Value := PZ163.setIfInBounds 23 (.int .u64 un)
noncomputable def c2 (un : Int) (s : ByteArray) (w : World) : Array Value := putL (c1 un) 57 (A90 s w).toList
noncomputable def c4 (un : Int) (s : ByteArray) (w : World) : Array Value := putL (c2 un s w) 67 (trkV s).toList
noncomputable def c6 (k mu he ms : Nat) (un : Int) (s : ByteArray) (w : World) : Array Value := putL (c4 un s w) 51 (logV k mu he ms).toList
theorem c1_size (un : Int) : (c1 un).size = 353 := by rw [c1, Array.size_setIfInBounds, PZ163_size]
theorem c2_size (un : Int) (s : ByteArray) (w : World) : (c2 un s w).size = 353 := by rw [c2, putL_size, c1_size]
theorem c4_size (un : Int) (s : ByteArray) (w : World) : (c4 un s w).size = 353 := by rw [c4, putL_size, c2_size]
theorem there_src {un : Int} {s : ByteArray} {w v : World} {p : Nat} (r : RowAt w p (c1 un) 163) : w.there p 57 (A90 s v).size := there_row r (by rw [c1_size, src_size]; omega)
theorem there_trk {un : Int} {s : ByteArray} {w v : World} {p : Nat} (r : RowAt w p (c2 un s v) 163) : w.there p 67 (trkV s).size := there_row r (by rw [c2_size, trk_size]; omega)
theorem there_log {un : Int} {s : ByteArray} {w v : World} {p k mu he ms : Nat} (r : RowAt w p (c4 un s v) 163) : w.there p 51 (logV k mu he ms).size := there_row r (by rw [c4_size, log_size]; omega)
theorem par2 (un : Int) (s : ByteArray) (w : World) : (c2 un s w)[57]? = some (.string ⟨#[]⟩) ∧ (c2 un s w)[57 + 1]? = some (.string ⟨#[]⟩) ∧ (c2 un s w)[57 + 3]? = some (.string s) := ⟨by kernel_rfl, by kernel_rfl, by kernel_rfl⟩
theorem atPar (k mu he ms : Nat) (un : Int) (s : ByteArray) (w : World) : At (c6 k mu he ms un s w) (parL k mu he ms un) := by
  unfold parL
  repeat (refine List.forall_mem_cons.2 ⟨by kernel_rfl, ?_⟩)
  exact List.forall_mem_nil _
theorem atTrk (k mu he ms : Nat) (un : Int) (s : ByteArray) (w : World) : At (c6 k mu he ms un s w) (tkL 67 s 0 0 0 0 false) := by
  unfold tkL
  repeat (refine List.forall_mem_cons.2 ⟨by kernel_rfl, ?_⟩)
  exact List.forall_mem_nil _
theorem at68 (k mu he ms : Nat) (un : Int) (s : ByteArray) (w : World) : (c6 k mu he ms un s w)[67 + 1]? = some (.string ⟨#[]⟩) ∧ (c6 k mu he ms un s w)[67 + 1 + 1]? = some (.string ⟨#[]⟩) := ⟨by kernel_rfl, by kernel_rfl⟩
def NewPar (B : Nat) (un : Int) (s : ByteArray) (W : World) (e : Ending) (W' : World) : Prop := ∃ p k mu he ms, e = .returned (.pointer (some ⟨p, 0, none⟩)) ∧ LG B k mu he ms 1 (.slice none 0 0) 0 [] W' ∧ PM p k mu he ms un s W' ∧ B ≤ p ∧ Below W.heap.size W W'
set_option maxHeartbeats 8000000 in
theorem newpar5 (W : World) (B : Nat) (hB : B ≤ W.heap.size) (un : Int) (s : ByteArray) : Calls Tryf.prog 5 #[.int .u64 un, .string s] W (NewPar B un s W) := by
  go_enter Tryf.func5, Tryf.ntmps5
  go_upto_region 2 with (refine wpList_build rfl 163 _ rfl #[] (by simp [Act.eval, Act.put]) _ (build163k _) ?_)
  have r0 : RowAt (W.alloc (.cells PZ163 163)) W.heap.size PZ163 163 := RowAt.new W _ _
  have b0 : Below W.heap.size W (W.alloc (.cells PZ163 163)) := (Below.refl _ _).alloc (Nat.le_refl _) _
  generalize W.alloc (.cells PZ163 163) = w0 at r0 b0 ⊢
  obtain ⟨p, hp⟩ : ∃ p, p = W.heap.size := ⟨_, rfl⟩
  rw [← hp] at r0 b0 ⊢
  have HP := Lib.hid (show B ≤ p ∧ p = W.heap.size from ⟨hp ▸ hB, hp⟩)
  clear hp
  have c23 := r0.cellv PZ163_23
  have z23 := r0.frozen 23
  have p0 := r0.lt
  have H0 := Lib.hid (And.intro r0 b0)
  clear r0 b0
  go_upto_region 3 with (fail)
  have r1 : RowAt (w0.setCell ⟨p, 23, none⟩ (.int .u64 un)) p (c1 un) 163 := H0.out.1.set 23 (.int .u64 un)
  have b1 : Below p W (w0.setCell ⟨p, 23, none⟩ (.int .u64 un)) := H0.out.2.setCell (Nat.le_refl _) _
  generalize w0.setCell ⟨p, 23, none⟩ (.int .u64 un) = w1 at r1 b1 ⊢
  have H1 := Lib.hid (And.intro r1 b1)
  clear r1 b1 c23 z23 p0 H0
  go_upto_region 4 with (first
    | (refine wpList_build rfl 90 _ rfl #[(2, .string s)] (by simp [Act.eval, Act.put]) _ (build90k s _) ?_)
    | (refine wpList_store_mid rfl 90 _ _ rfl p 57 (A90 s w1) (by rfl) (by rfl) (there_src H1.out.1) (src_info s w1) (src_one s w1) ?_))
  have r2 : RowAt (w1.setCells p 57 (A90 s w1).toList) p (c2 un s w1) 163 := H1.out.1.setCells (A90 s w1).toList 57
  have b2 : Below p W (w1.setCells p 57 (A90 s w1).toList) := below_setCells (Nat.le_refl _) _ _ H1.out.2
  generalize w1.setCells p 57 (A90 s w1).toList = w2 at r2 b2 ⊢
  have p2 := r2.lt
  have H2 := Lib.hid (And.intro r2 b2)
  clear r2 b2
  go_wp2_with fail
  refine (mk8 p 57 163 s (c2 un s w1) w2 H2.out.1 (par2 un s w1).1 (par2 un s w1).2.1 (par2 un s w1).2.2).mono ?_
  rintro e3 w3 ⟨rfl, hb3⟩
  have r3 := H2.out.1.below hb3 H2.out.1.lt
  have b3 := H2.out.2.trans (hb3.mono (Nat.le_of_lt H2.out.1.lt))
  have H3 := Lib.hid (And.intro r3 b3)
  clear r3 b3 hb3 H2 p2
  go_upto_region 5 with (refine wpList_store_mid rfl 92 _ _ rfl p 67 (trkV s) (by rfl) (by rfl) (there_trk H3.out.1) (trk_info s) (trk_one s) ?_)
  have r4 : RowAt (w3.setCells p 67 (trkV s).toList) p (c4 un s w1) 163 := H3.out.1.setCells (trkV s).toList 67
  have b4 : Below p W (w3.setCells p 67 (trkV s).toList) := below_setCells (Nat.le_refl _) _ _ H3.out.2
  generalize w3.setCells p 67 (trkV s).toList = w4 at r4 b4 ⊢
  have p4 := r4.lt
  have H4 := Lib.hid (And.intro r4 b4)
  clear r4 b4 H3
  go_wp2_with fail
  refine (newlog7 w4 B (Nat.le_trans HP.out.1 (Nat.le_of_lt p4))).mono ?_
  rintro e5 w5 ⟨k, mu, he, ms, rfl, l5, hb5⟩
  have r5 := H4.out.1.below hb5 p4
  have b5 := H4.out.2.trans (hb5.mono (Nat.le_of_lt p4))
  have H5 := Lib.hid (And.intro r5 (And.intro b5 l5))
  clear r5 b5 hb5 l5 H4 p4
  go_upto_region 6 with (refine wpList_store_mid rfl 81 _ _ rfl p 51 (logV k mu he ms) (by rfl) (by rfl) (there_log H5.out.1) (log_info k mu he ms) (log_one k mu he ms) ?_)
  have r6 : RowAt (w5.setCells p 51 (logV k mu he ms).toList) p (c6 k mu he ms un s w1) 163 := H5.out.1.setCells (logV k mu he ms).toList 51
  have b6 : Below p W (w5.setCells p 51 (logV k mu he ms).toList) := below_setCells (Nat.le_refl _) _ _ H5.out.2.1
  have f6 : Fp p w5 (w5.setCells p 51 (logV k mu he ms).toList) := fun g cs t hg r => RowAt.setCells_other hg _ _ r
  have l6 := H5.out.2.2.fp H5.out.1 f6 (by rw [setCells_size]; exact Nat.le_refl _)
  generalize w5.setCells p 51 (logV k mu he ms).toList = w6 at r6 b6 l6 f6 ⊢
  have H6 := Lib.hid (And.intro r6 (And.intro b6 l6))
  clear r6 b6 l6 f6 H5
  go_wp2_with fail
  go_ret
  exact ⟨p, k, mu, he, ms, rfl, H6.out.2.2, ⟨_, H6.out.1, atTrk k mu he ms un s w1, (at68 k mu he ms un s w1).1, (at68 k mu he ms un s w1).2, atPar k mu he ms un s w1⟩, HP.out.1, HP.out.2 ▸ H6.out.2.1⟩

end Go.Proofs.YtidicogmfpfibabFmt
