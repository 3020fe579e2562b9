import Derived.Test.YtkncfhhiookgdabGreatFmtKit
import Derived.Test.YtkncfhhiookgdabGreatFmtIuA
import Derived.Laws.CopyOwn
namespace Go.Proofs.YtkncfhhiookgdabGreatFmt
open Go.ChangeShapes Go.WideShapes Go.ChangeAt Go.RowKit
set_option linter.unusedVariables false
set_option maxRecDepth 100000
set_option maxHeartbeats 2000000

open Go.MuLone
theorem row_setRow {w : World} {p : Nat} {cs ds : Array Value} {t : TypeId} (h : RowAt w p cs t) : RowAt (w.setRow p ds) p ds t := setRow_heap w p _ _ t _ h
theorem range_of {w : World} {p : Nat} {cs : Array Value} {t : TypeId} (h : RowAt w p cs t) : w.rangeAt p 0 cs.toList := by
  intro j v hv
  rw [Nat.zero_add]
  exact h.cellv (by simpa using hv)

theorem RowAt.newAt {w : World} {p : Nat} {cs : Array Value} {t : TypeId} (h : p = w.heap.size) : RowAt (w.alloc (.cells cs t)) p cs t := h ▸ RowAt.new w cs t
/-- The value of a deferred log over these variables. -/
def logV (k mu he ms : Nat) : Array Value := #[.func (Fn.func 18) #[] #[.pointer (some ⟨k, 0, none⟩), .pointer (some ⟨mu, 0, none⟩), .pointer (some ⟨he, 0, none⟩), .pointer (some ⟨ms, 0, none⟩)], .func (Fn.func 21) #[] #[.pointer (some ⟨mu, 0, none⟩), .pointer (some ⟨he, 0, none⟩)], .func (Fn.func 22) #[] #[.pointer (some ⟨mu, 0, none⟩), .pointer (some ⟨ms, 0, none⟩)], .func (Fn.func 23) #[] #[.pointer (some ⟨mu, 0, none⟩), .pointer (some ⟨ms, 0, none⟩)], .int .i8 3, .map none]
def NewLog (B : Nat) (W : World) (e : Ending) (W' : World) : Prop := ∃ k mu he ms, e = .returned (.agg (logV k mu he ms)) ∧ LG B k mu he ms 0 (.slice none 0 0) 0 [] false W' ∧ Below W.heap.size W W'
set_option maxHeartbeats 4000000 in
theorem newlog15 (W : World) (B : Nat) (hB : B ≤ W.heap.size) : Calls Tryz.prog 15 #[.int .u8 0, .map none] W (NewLog B W) := by
  have hmf : ∀ (fn : Fn) (first cap : Array Value) (w : World), (Instr.makeFunc fn first cap).run Tryz.prog w = .ok (.func fn first cap) w := fun _ _ _ _ => rfl
  go_enter Tryz.func15, Tryz.ntmps15
  go_upto_region 4 with (fail)
  obtain ⟨W5, hW5⟩ : ∃ W5, W5 = ((((W.alloc (.cells #[.int .u8 0] 42)).alloc (.cells #[.nilFunc, .nilFunc, .nilFunc, .nilFunc, .int .i8 0, .map none] 40)).alloc (.cells #[.slice none 0 0] 166)).alloc (.cells #[.int .i32 0, .int .u32 0] 172)).alloc (.cells #[.bool false] 4) := ⟨_, rfl⟩
  have rk : RowAt W5 W.heap.size #[.int .u8 0] 42 := by rw [hW5]; exact ((((RowAt.newAt rfl).alloc _).alloc _).alloc _).alloc _
  have rl : RowAt W5 (W.heap.size + 1) #[.nilFunc, .nilFunc, .nilFunc, .nilFunc, .int .i8 0, .map none] 40 := by rw [hW5]; exact (((RowAt.newAt (by simp)).alloc _).alloc _).alloc _
  have rs : RowAt W5 (W.heap.size + 1 + 1) #[.slice none 0 0] 166 := by rw [hW5]; exact ((RowAt.newAt (by simp)).alloc _).alloc _
  have rm : RowAt W5 (W.heap.size + 1 + 1 + 1) #[.int .i32 0, .int .u32 0] 172 := by rw [hW5]; exact (RowAt.newAt (by simp)).alloc _
  have rh : RowAt W5 (W.heap.size + 1 + 1 + 1 + 1) #[.bool false] 4 := by rw [hW5]; exact RowAt.newAt (by simp)
  have hb : Below W.heap.size W W5 := by rw [hW5]; exact (((((Below.refl _ _).alloc (by simp) _).alloc (by first | (simp; done) | (simp; omega)) _).alloc (by first | (simp; done) | (simp; omega)) _).alloc (by first | (simp; done) | (simp; omega)) _).alloc (by first | (simp; done) | (simp; omega)) _
  rw [← hW5]
  have hz := hb.size
  clear hW5
  obtain ⟨k, hk⟩ : ∃ k, k = W.heap.size := ⟨_, rfl⟩
  obtain ⟨r, hr⟩ : ∃ r, r = W.heap.size + 1 := ⟨_, rfl⟩
  obtain ⟨ms, hs⟩ : ∃ ms, ms = W.heap.size + 1 + 1 := ⟨_, rfl⟩
  obtain ⟨mu, hm⟩ : ∃ mu, mu = W.heap.size + 1 + 1 + 1 := ⟨_, rfl⟩
  obtain ⟨he, hh⟩ : ∃ he, he = W.heap.size + 1 + 1 + 1 + 1 := ⟨_, rfl⟩
  have b1 : B ≤ k := by omega
  have b2 : B ≤ mu := by omega
  have b3 : B ≤ he := by omega
  have b4 : B ≤ ms := by omega
  have b5 : W.heap.size ≤ r := by omega
  rw [← hh] at rh ⊢
  rw [← hm] at rm ⊢
  rw [← hs] at rs ⊢
  rw [← hr] at rl ⊢
  rw [show RowAt W5 W.heap.size #[.int .u8 0] 42 = RowAt W5 k #[.int .u8 0] 42 by rw [hk]] at rk
  simp only [← hk]
  have H := Lib.hid (And.intro rk (And.intro rs (And.intro rm (And.intro rh (And.intro hb (And.intro b1 (And.intro b2 (And.intro b3 (And.intro b4 b5)))))))))
  have HL := Lib.hid rl
  have HZ := Lib.hid (show B ≤ W5.heap.size by omega)
  clear rk rl rs rm rh hb b1 b2 b3 b4 b5 hz hk hr hs hm hh
  go_wp2_with (refine wpList_store_row rfl 40 _ _ rfl r (logV k mu he ms) (by rfl) (by rfl) 40 _ HL.out (by kernel_rfl) (by kernel_rfl) (by kernel_rfl) ?_)
  have hr9 := row_setRow (ds := logV k mu he ms) HL.out
  obtain ⟨rk, rs, rm, rh, hb, b1, b2, b3, b4, b5⟩ := H.out
  have t : ∀ {g : Nat} {cs : Array Value} {t : TypeId}, t ≠ 40 → RowAt W5 g cs t → RowAt (W5.setRow r (logV k mu he ms)) g cs t := fun {g cs t} ht q => (setRow_other W5 r g _ (q.diff HL.out ht)).trans q
  exact bodyPost_ret (v := .agg (logV k mu he ms)) (results_cell Tryz.results15 (by rfl) (run_loadVar_mid _ r 0 40 _ _ (range_of hr9) Tryz.underlying40 rfl (by kernel_rfl))) rfl ⟨k, mu, he, ms, rfl, ⟨t (by decide) rk, t (by decide) rm, t (by decide) rh, t (by decide) rs, ⟨rfl, .inl ⟨rfl, rfl⟩⟩, by simpa [World.setRow] using HZ.out, b1, b2, b3, b4⟩, below_setRow hb b5 _⟩
theorem loc56 (p o : Nat) (s l : Int) (W : World) (h : W.cell? ⟨p, o + 9, none⟩ = some (.bool false)) (hp : p < W.heap.size) : Calls Tryz.prog 56 #[.pointer (some ⟨p, o, none⟩), .agg #[.int .i32 s, .int .i32 l]] W fun e W' => e = .returned (.pointer none) ∧ Below W.heap.size W W' := by
  go_enter Tryz.func56, Tryz.ntmps56
  go_wp2
  go_ret
  exact ⟨rfl, (Below.refl _ _).alloc (Nat.le_refl _) _⟩
def DataIs (W : World) (tx : ByteArray) (e : Ending) (W' : World) : Prop := e = .returned (.agg #[.nilIface, .pointer none, .string tx, .bool false]) ∧ Below W.heap.size W W'
set_option maxHeartbeats 4000000 in
theorem data43 (p o : Nat) (s l : Int) (tx : ByteArray) (W : World) (h : W.cell? ⟨p, o + 9, none⟩ = some (.bool false)) (hp : p < W.heap.size) : Calls Tryz.prog 43 #[.pointer (some ⟨p, o, none⟩), .agg #[.int .i32 s, .int .i32 l], .string tx] W (DataIs W tx) := by
  have hb0 : Below W.heap.size W ((W.alloc (.cells #[.int .i32 s, .int .i32 l] 61)).alloc (.cells #[.nilIface, .pointer none, .string ⟨#[]⟩, .bool false] 176)) := ((Below.refl _ _).alloc (Nat.le_refl _) _).alloc (by simp) _
  have h' := (hb0.cell (p := ⟨p, o + 9, none⟩) hp).trans h
  have rr : RowAt ((W.alloc (.cells #[.int .i32 s, .int .i32 l] 61)).alloc (.cells #[.nilIface, .pointer none, .string ⟨#[]⟩, .bool false] 176)) (W.heap.size + 1) #[.nilIface, .pointer none, .string ⟨#[]⟩, .bool false] 176 := RowAt.newAt (by simp)
  have HB := Lib.hid hb0
  have HR := Lib.hid rr
  have HC := Lib.hid h'
  clear hb0 rr h'
  go_enter Tryz.func43, Tryz.ntmps43
  go_wp2_with fail
  refine (loc56 p o s l _ HC.out (by simp; omega)).mono ?_
  rintro e w1 ⟨rfl, hb1⟩
  have rr1 := HR.out.below hb1 HR.out.lt
  have HB1 := Lib.hid (HB.out.trans (hb1.mono HB.out.size))
  have c0 := rr1.cellv (j := 0) (v := .nilIface) rfl
  have c1 := rr1.cellv (j := 1) (v := .pointer none) rfl
  have c2 := rr1.cellv (j := 2) (v := .string ⟨#[]⟩) rfl
  have c3 := rr1.cellv (j := 3) (v := .bool false) rfl
  have HR1 := Lib.hid rr1
  clear hb1 rr1 c0 c1 c2 c3 h
  go_wp2_with (refine wpList_store_row rfl 176 _ _ rfl (W.heap.size + 1) #[.nilIface, .pointer none, .string tx, .bool false] (by rfl) (by rfl) 176 _ HR1.out (by kernel_rfl) (by kernel_rfl) (by kernel_rfl) ?_)
  have hr9 := row_setRow (ds := #[.nilIface, .pointer none, .string tx, .bool false]) HR1.out
  exact bodyPost_ret (v := .agg #[.nilIface, .pointer none, .string tx, .bool false]) (results_cell Tryz.results43 (by rfl) (run_loadVar_mid _ (W.heap.size + 1) 0 176 _ _ (range_of hr9) Tryz.underlying176 rfl (by kernel_rfl))) rfl ⟨rfl, below_setRow HB1.out (by omega) _⟩

noncomputable def rg29_1 : List Oper := rgAt Tryz.f29 1
def Bs29 (k mu he ms : Nat) (p o : Nat) (s l : Int) (tx : ByteArray) (b : Nat) : List Value := [.agg (logV k mu he ms), .pointer (some ⟨p, o, none⟩), .agg #[.int .i32 s, .int .i32 l], .string tx, .pointer (some ⟨b, 0, none⟩), undef, .pointer (some ⟨b + 1, 0, none⟩), undef, undef, undef, undef, undef, undef, undef, undef, undef]
def Vs29 (k mu he ms : Nat) (p o : Nat) (s l : Int) (tx : ByteArray) (b : Nat) : List Value := [.pointer (some ⟨b, 0, none⟩), .func (Fn.func 18) #[] #[.pointer (some ⟨k, 0, none⟩), .pointer (some ⟨mu, 0, none⟩), .pointer (some ⟨he, 0, none⟩), .pointer (some ⟨ms, 0, none⟩)], .pointer (some ⟨p, o, none⟩), .agg #[.int .i32 s, .int .i32 l], .string tx, .agg #[.nilIface, .pointer none, .string tx, .bool false], .agg #[.slice none 0 0, .string ⟨#[]⟩, .nilIface, .pointer none, .string tx, .bool false, .int .u8 0, .int .u8 0], .tuple #[]]
theorem ok29 (j : Nat) (h : j < 8) : stepOk rg29_1.toArray 8 j = true := by
  have h0 : ((List.range 8).all fun i => stepOk rg29_1.toArray 8 (0 + i)) = true := by kernel_rfl
  exact chunk h0 j (by omega) (by omega)
theorem sel29 : Region.noSelect rg29_1.toArray = true := by kernel_rfl
set_option maxHeartbeats 4000000 in
theorem adderr29 (B k mu he ms : Nat) (v : Value) (n : Nat) (xs : List Value) (fl : Bool) (W : World) (H : LG B k mu he ms 0 v n xs fl W) (p o : Nat) (s l : Int) (tx : ByteArray) (hn : n ≤ 100000) (h : W.cell? ⟨p, o + 9, none⟩ = some (.bool false)) (hp : p < W.heap.size) :
    Calls Tryz.prog 29 #[.agg (logV k mu he ms), .pointer (some ⟨p, o, none⟩), .agg #[.int .i32 s, .int .i32 l], .string tx] W (Added B k mu he ms 0 n (xs ++ msgV 0 0 (.slice none 0 0) (.pointer none) tx) true W) := by
  have HH := Lib.hid H
  have HC := Lib.hid h
  clear H h
  go_enter Tryz.func29, Tryz.ntmps29
  go_upto_region 1 with (fail)
  have hb0 : Below W.heap.size W ((W.alloc (.cells (logV k mu he ms) 40)).alloc (.cells #[.int .i32 s, .int .i32 l] 61)) := ((Below.refl _ _).alloc (Nat.le_refl _) _).alloc (by simp) _
  have r4 : RowAt ((W.alloc (.cells (logV k mu he ms) 40)).alloc (.cells #[.int .i32 s, .int .i32 l] 61)) W.heap.size (logV k mu he ms) 40 := (RowAt.newAt rfl).alloc _
  have r6 : RowAt ((W.alloc (.cells (logV k mu he ms) 40)).alloc (.cells #[.int .i32 s, .int .i32 l] 61)) (W.heap.size + 1) #[.int .i32 s, .int .i32 l] 61 := RowAt.newAt (by simp)
  obtain ⟨W1, hW1⟩ : ∃ W1, W1 = (W.alloc (.cells (logV k mu he ms) 40)).alloc (.cells #[.int .i32 s, .int .i32 l] 61) := ⟨_, rfl⟩
  rw [← hW1] at hb0 r4 r6 ⊢
  clear hW1
  have HB := Lib.hid hb0
  have H4 := Lib.hid r4
  have H6 := Lib.hid r6
  clear hb0 r4 r6
  refine reg_conv rg29_1 (by kernel_rfl) ?_
  refine held_begin (N := 8) (S := fun W' => RowAt W' W.heap.size (logV k mu he ms) 40 ∧ RowAt W' (W.heap.size + 1) #[.int .i32 s, .int .i32 l] 61) (a' := frAct (Bs29 k mu he ms p o s l tx W.heap.size) (Vs29 k mu he ms p o s l tx W.heap.size) 8 0) (by kernel_rfl) (by kernel_rfl) (by kernel_rfl) ⟨H4.out, H6.out⟩ (fun hS => ?_)
  refine held_to (a' := frAct (Bs29 k mu he ms p o s l tx W.heap.size) (Vs29 k mu he ms p o s l tx W.heap.size) 8 1) 0 8 (d := some 8) (v := .pointer (some ⟨W.heap.size, 0, none⟩)) (by kernel_rfl) (by kernel_rfl) sel29 (ok29 _ (by omega)) (fun _ _ _ h => h) (by kernel_rfl) (fun _ _ => by kernel_rfl) hS (by kernel_rfl) ?_
  refine held_to (a' := frAct (Bs29 k mu he ms p o s l tx W.heap.size) (Vs29 k mu he ms p o s l tx W.heap.size) 8 2) 1 8 (d := some 9) (v := .func (Fn.func 18) #[] #[.pointer (some ⟨k, 0, none⟩), .pointer (some ⟨mu, 0, none⟩), .pointer (some ⟨he, 0, none⟩), .pointer (some ⟨ms, 0, none⟩)]) (by kernel_rfl) (by kernel_rfl) sel29 (ok29 _ (by omega)) (fun _ _ _ h => h) (by kernel_rfl) (fun _ hS => run_ld (T := 33) (x := .tmp 8) (by kernel_rfl) (by kernel_rfl) (run_ld1 ⟨W.heap.size, 0, none⟩ 33 _ _ (by kernel_rfl) (hS.1.cellv (j := 0) (by rfl)))) hS (by kernel_rfl) ?_
  refine held_to (a' := frAct (Bs29 k mu he ms p o s l tx W.heap.size) (Vs29 k mu he ms p o s l tx W.heap.size) 8 3) 2 8 (d := some 10) (v := .pointer (some ⟨p, o, none⟩)) (by kernel_rfl) (by kernel_rfl) sel29 (ok29 _ (by omega)) (fun _ _ _ h => h) (by kernel_rfl) (fun _ _ => by kernel_rfl) hS (by kernel_rfl) ?_
  refine held_to (a' := frAct (Bs29 k mu he ms p o s l tx W.heap.size) (Vs29 k mu he ms p o s l tx W.heap.size) 8 4) 3 8 (d := some 11) (v := .agg #[.int .i32 s, .int .i32 l]) (by kernel_rfl) (by kernel_rfl) sel29 (ok29 _ (by omega)) (fun _ _ _ h => h) (by kernel_rfl) (fun _ hS => run_ld (T := 61) (x := .tmp 6) (by kernel_rfl) (by kernel_rfl) (run_loadVar_mid _ (W.heap.size + 1) 0 61 _ _ (range_of hS.2) Tryz.underlying61 rfl (by kernel_rfl))) hS (by kernel_rfl) ?_
  refine held_to (a' := frAct (Bs29 k mu he ms p o s l tx W.heap.size) (Vs29 k mu he ms p o s l tx W.heap.size) 8 5) 4 8 (d := some 12) (v := .string tx) (by kernel_rfl) (by kernel_rfl) sel29 (ok29 _ (by omega)) (fun _ _ _ h => h) (by kernel_rfl) (fun _ _ => by kernel_rfl) hS (by kernel_rfl) ?_
  refine held_ready1 5 (by kernel_rfl) (by kernel_rfl) (by kernel_rfl) ?_
  refine wp_enter (d := some 13) (f := 43) (args := #[.pointer (some ⟨p, o, none⟩), .agg #[.int .i32 s, .int .i32 l], .string tx]) (by kernel_rfl) (by kernel_rfl) ?_
  have hw : Below W.heap.size W W1.drew := below_drewN HB.out 1
  refine (data43 p o s l tx _ ((hw.cell (p := ⟨p, o + 9, none⟩) hp).trans HC.out) (Nat.lt_of_lt_of_le hp hw.size)).mono ?_
  rintro e2 w2 ⟨rfl, hb2⟩
  have hS2 := (And.intro (hS.1.below hb2 hS.1.lt) (hS.2.below hb2 hS.2.lt))
  refine ⟨_, rfl, hS2, ?_⟩
  rw [Lk_succ, show (frAct (Bs29 k mu he ms p o s l tx W.heap.size) (Vs29 k mu he ms p o s l tx W.heap.size) 8 5).put (some 13) (.agg #[.nilIface, .pointer none, .string tx, .bool false]) = frAct (Bs29 k mu he ms p o s l tx W.heap.size) (Vs29 k mu he ms p o s l tx W.heap.size) 8 6 from by kernel_rfl]
  refine held_to (a' := frAct (Bs29 k mu he ms p o s l tx W.heap.size) (Vs29 k mu he ms p o s l tx W.heap.size) 8 7) 6 8 (d := some 14) (v := .agg #[.slice none 0 0, .string ⟨#[]⟩, .nilIface, .pointer none, .string tx, .bool false, .int .u8 0, .int .u8 0]) (by kernel_rfl) (by kernel_rfl) sel29 (ok29 _ (by omega)) (fun _ _ _ h => h) (by kernel_rfl) (fun _ _ => by kernel_rfl) hS2 (by kernel_rfl) ?_
  refine held_ready1 7 (by kernel_rfl) (by kernel_rfl) (by kernel_rfl) ?_
  refine wp_enter (d := some 15) (f := 18) (args := #[.agg #[.slice none 0 0, .string ⟨#[]⟩, .nilIface, .pointer none, .string tx, .bool false, .int .u8 0, .int .u8 0], .pointer (some ⟨k, 0, none⟩), .pointer (some ⟨mu, 0, none⟩), .pointer (some ⟨he, 0, none⟩), .pointer (some ⟨ms, 0, none⟩)]) (by kernel_rfl) (by kernel_rfl) ?_
  have hw2 : Below W.heap.size W w2 := hw.trans (hb2.mono hw.size)
  refine (add18e B k mu he ms 0 v n xs fl w2 (HH.out.later hw2) rfl none 0 0 none tx hn).mono ?_
  rintro e3 w3 ⟨rfl, v3, H3, k3, b3⟩
  refine ⟨_, rfl, ⟨k3 _ _ _ (by decide) (by decide) (by decide) (by decide) hS2.1, k3 _ _ _ (by decide) (by decide) (by decide) (by decide) hS2.2⟩, ?_⟩
  rw [Lk_succ]
  refine ⟨by kernel_rfl, ?_⟩
  have hE : Added B k mu he ms 0 n (xs ++ msgV 0 0 (.slice none 0 0) (.pointer none) tx) true W (.returned (.tuple #[])) w3 := ⟨rfl, v3, H3, (Kp.below hw2).trans k3, (hw2.mono HH.out.hB).trans b3⟩
  have HE := Lib.hid hE
  clear hE H3 k3 b3 hw2 hw hb2 hS hS2
  go_wp2_with fail
  exact bodyPost_ret (v := .tuple #[]) (results_none (by kernel_rfl) _ _ _) (by kernel_rfl) HE.out

end Go.Proofs.YtkncfhhiookgdabGreatFmt
