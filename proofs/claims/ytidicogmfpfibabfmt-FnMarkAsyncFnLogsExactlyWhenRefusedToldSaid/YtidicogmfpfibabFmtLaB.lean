import Derived.Test.YtidicogmfpfibabFmtKit
import Derived.Test.YtidicogmfpfibabFmtLaA
import Derived.Laws.CopyOwn
namespace Go.Proofs.YtidicogmfpfibabFmt
open Go.ChangeShapes Go.WideShapes Go.ChangeAt Go.RowKit
set_option linter.unusedVariables false
set_option maxRecDepth 100000
set_option maxHeartbeats 2000000

open Go.MuLone
theorem row_setRow {w : World} {p : Nat} {cs ds : Array Value} {t : TypeId} (h : RowAt w p cs t) : RowAt (w.setRow p ds) p ds t := setRow_heap w p _ _ t _ h
theorem range_of {w : World} {p : Nat} {cs : Array Value} {t : TypeId} (h : RowAt w p cs t) : w.rangeAt p 0 cs.toList := by
  intro j v hv
  rw [Nat.zero_add]
  exact h.cellv (by simpa using hv)

theorem RowAt.newAt {w : World} {p : Nat} {cs : Array Value} {t : TypeId} (h : p = w.heap.size) : RowAt (w.alloc (.cells cs t)) p cs t := h ▸ RowAt.new w cs t
/-- The value of a deferred log over these variables. -/
def logV (k mu he ms : Nat) : Array Value := #[.func (Fn.func 11) #[] #[.pointer (some ⟨k, 0, none⟩), .pointer (some ⟨mu, 0, none⟩), .pointer (some ⟨he, 0, none⟩), .pointer (some ⟨ms, 0, none⟩)], .func (Fn.func 14) #[] #[.pointer (some ⟨mu, 0, none⟩), .pointer (some ⟨he, 0, none⟩)], .func (Fn.func 15) #[] #[.pointer (some ⟨mu, 0, none⟩), .pointer (some ⟨ms, 0, none⟩)], .func (Fn.func 16) #[] #[.pointer (some ⟨mu, 0, none⟩), .pointer (some ⟨ms, 0, none⟩)], .int .i8 3, .map none]
def NewLog (B : Nat) (W : World) (e : Ending) (W' : World) : Prop := ∃ k mu he ms, e = .returned (.agg (logV k mu he ms)) ∧ LG B k mu he ms 1 (.slice none 0 0) 0 [] W' ∧ Below W.heap.size W W'
set_option maxHeartbeats 4000000 in
theorem newlog7 (W : World) (B : Nat) (hB : B ≤ W.heap.size) : Calls Tryf.prog 9 #[.int .u8 1, .map none] W (NewLog B W) := by
  have hmf : ∀ (fn : Fn) (first cap : Array Value) (w : World), (Instr.makeFunc fn first cap).run Tryf.prog w = .ok (.func fn first cap) w := fun _ _ _ _ => rfl
  go_enter Tryf.func9, Tryf.ntmps9
  go_upto_region 4 with (fail)
  obtain ⟨W5, hW5⟩ : ∃ W5, W5 = ((((W.alloc (.cells #[.int .u8 1] 166)).alloc (.cells #[.nilFunc, .nilFunc, .nilFunc, .nilFunc, .int .i8 0, .map none] 81)).alloc (.cells #[.slice none 0 0] 168)).alloc (.cells #[.int .i32 0, .int .u32 0] 174)).alloc (.cells #[.bool false] 4) := ⟨_, rfl⟩
  have rk : RowAt W5 W.heap.size #[.int .u8 1] 166 := by rw [hW5]; exact ((((RowAt.newAt rfl).alloc _).alloc _).alloc _).alloc _
  have rl : RowAt W5 (W.heap.size + 1) #[.nilFunc, .nilFunc, .nilFunc, .nilFunc, .int .i8 0, .map none] 81 := by rw [hW5]; exact (((RowAt.newAt (by simp)).alloc _).alloc _).alloc _
  have rs : RowAt W5 (W.heap.size + 1 + 1) #[.slice none 0 0] 168 := by rw [hW5]; exact ((RowAt.newAt (by simp)).alloc _).alloc _
  have rm : RowAt W5 (W.heap.size + 1 + 1 + 1) #[.int .i32 0, .int .u32 0] 174 := by rw [hW5]; exact (RowAt.newAt (by simp)).alloc _
  have rh : RowAt W5 (W.heap.size + 1 + 1 + 1 + 1) #[.bool false] 4 := by rw [hW5]; exact RowAt.newAt (by simp)
  have hb : Below W.heap.size W W5 := by rw [hW5]; exact (((((Below.refl _ _).alloc (by simp) _).alloc (by first | (simp; done) | (simp; omega)) _).alloc (by first | (simp; done) | (simp; omega)) _).alloc (by first | (simp; done) | (simp; omega)) _).alloc (by first | (simp; done) | (simp; omega)) _
  rw [← hW5]
  have hz := hb.size
  clear hW5
  obtain ⟨k, hk⟩ : ∃ k, k = W.heap.size := ⟨_, rfl⟩
  obtain ⟨r, hr⟩ : ∃ r, r = W.heap.size + 1 := ⟨_, rfl⟩
  obtain ⟨ms, hs⟩ : ∃ ms, ms = W.heap.size + 1 + 1 := ⟨_, rfl⟩
  obtain ⟨mu, hm⟩ : ∃ mu, mu = W.heap.size + 1 + 1 + 1 := ⟨_, rfl⟩
  obtain ⟨he, hh⟩ : ∃ he, he = W.heap.size + 1 + 1 + 1 + 1 := ⟨_, rfl⟩
  have b1 : B ≤ k := by omega
  have b2 : B ≤ mu := by omega
  have b3 : B ≤ he := by omega
  have b4 : B ≤ ms := by omega
  have b5 : W.heap.size ≤ r := by omega
  rw [← hh] at rh ⊢
  rw [← hm] at rm ⊢
  rw [← hs] at rs ⊢
  rw [← hr] at rl ⊢
  rw [show RowAt W5 W.heap.size #[.int .u8 1] 166 = RowAt W5 k #[.int .u8 1] 166 by rw [hk]] at rk
  simp only [← hk]
  have H := Lib.hid (And.intro rk (And.intro rs (And.intro rm (And.intro rh (And.intro hb (And.intro b1 (And.intro b2 (And.intro b3 (And.intro b4 b5)))))))))
  have HL := Lib.hid rl
  have HZ := Lib.hid (show B ≤ W5.heap.size by omega)
  clear rk rl rs rm rh hb b1 b2 b3 b4 b5 hz hk hr hs hm hh
  go_wp2_with (refine wpList_store_row rfl 81 _ _ rfl r (logV k mu he ms) (by rfl) (by rfl) 81 _ HL.out (by kernel_rfl) (by kernel_rfl) (by kernel_rfl) ?_)
  have hr9 := row_setRow (ds := logV k mu he ms) HL.out
  obtain ⟨rk, rs, rm, rh, hb, b1, b2, b3, b4, b5⟩ := H.out
  have t : ∀ {g : Nat} {cs : Array Value} {t : TypeId}, t ≠ 81 → RowAt W5 g cs t → RowAt (W5.setRow r (logV k mu he ms)) g cs t := fun {g cs t} ht q => (setRow_other W5 r g _ (q.diff HL.out ht)).trans q
  exact bodyPost_ret (v := .agg (logV k mu he ms)) (results_cell Tryf.results9 (by rfl) (run_loadVar_mid _ r 0 81 _ _ (range_of hr9) Tryf.underlying81 rfl (by kernel_rfl))) rfl ⟨k, mu, he, ms, rfl, ⟨t (by decide) rk, t (by decide) rm, ⟨_, t (by decide) rh⟩, t (by decide) rs, ⟨rfl, .inl ⟨rfl, rfl⟩⟩, by simpa [World.setRow] using HZ.out, b1, b2, b3, b4⟩, below_setRow hb b5 _⟩
theorem loc31 (p o : Nat) (s l : Int) (W : World) (h : W.cell? ⟨p, o + 9, none⟩ = some (.bool false)) (hp : p < W.heap.size) : Calls Tryf.prog 50 #[.pointer (some ⟨p, o, none⟩), .agg #[.int .i32 s, .int .i32 l]] W fun e W' => e = .returned (.pointer none) ∧ Below W.heap.size W W' := by
  go_enter Tryf.func50, Tryf.ntmps50
  go_wp2
  go_ret
  exact ⟨rfl, (Below.refl _ _).alloc (Nat.le_refl _) _⟩
def DataIs (W : World) (tx : ByteArray) (e : Ending) (W' : World) : Prop := e = .returned (.agg #[.nilIface, .pointer none, .string tx, .bool false]) ∧ Below W.heap.size W W'
set_option maxHeartbeats 4000000 in
theorem data20 (p o : Nat) (s l : Int) (tx : ByteArray) (W : World) (h : W.cell? ⟨p, o + 9, none⟩ = some (.bool false)) (hp : p < W.heap.size) : Calls Tryf.prog 40 #[.pointer (some ⟨p, o, none⟩), .agg #[.int .i32 s, .int .i32 l], .string tx] W (DataIs W tx) := by
  have hb0 : Below W.heap.size W ((W.alloc (.cells #[.int .i32 s, .int .i32 l] 54)).alloc (.cells #[.nilIface, .pointer none, .string ⟨#[]⟩, .bool false] 32)) := ((Below.refl _ _).alloc (Nat.le_refl _) _).alloc (by simp) _
  have h' := (hb0.cell (p := ⟨p, o + 9, none⟩) hp).trans h
  have rr : RowAt ((W.alloc (.cells #[.int .i32 s, .int .i32 l] 54)).alloc (.cells #[.nilIface, .pointer none, .string ⟨#[]⟩, .bool false] 32)) (W.heap.size + 1) #[.nilIface, .pointer none, .string ⟨#[]⟩, .bool false] 32 := RowAt.newAt (by simp)
  have HB := Lib.hid hb0
  have HR := Lib.hid rr
  have HC := Lib.hid h'
  clear hb0 rr h'
  go_enter Tryf.func40, Tryf.ntmps40
  go_wp2_with fail
  refine (loc31 p o s l _ HC.out (by simp; omega)).mono ?_
  rintro e w1 ⟨rfl, hb1⟩
  have rr1 := HR.out.below hb1 HR.out.lt
  have HB1 := Lib.hid (HB.out.trans (hb1.mono HB.out.size))
  have c0 := rr1.cellv (j := 0) (v := .nilIface) rfl
  have c1 := rr1.cellv (j := 1) (v := .pointer none) rfl
  have c2 := rr1.cellv (j := 2) (v := .string ⟨#[]⟩) rfl
  have c3 := rr1.cellv (j := 3) (v := .bool false) rfl
  have HR1 := Lib.hid rr1
  clear hb1 rr1 c0 c1 c2 c3 h
  go_wp2_with (refine wpList_store_row rfl 32 _ _ rfl (W.heap.size + 1) #[.nilIface, .pointer none, .string tx, .bool false] (by rfl) (by rfl) 32 _ HR1.out (by kernel_rfl) (by kernel_rfl) (by kernel_rfl) ?_)
  have hr9 := row_setRow (ds := #[.nilIface, .pointer none, .string tx, .bool false]) HR1.out
  exact bodyPost_ret (v := .agg #[.nilIface, .pointer none, .string tx, .bool false]) (results_cell Tryf.results40 (by rfl) (run_loadVar_mid _ (W.heap.size + 1) 0 32 _ _ (range_of hr9) Tryf.underlying32 rfl (by kernel_rfl))) rfl ⟨rfl, below_setRow HB1.out (by omega) _⟩

end Go.Proofs.YtidicogmfpfibabFmt
