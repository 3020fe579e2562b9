import Derived.Test.YtidicogmfpfibabFmtKit
import Derived.Test.YtidicogmfpfibabFmtLaB
import Derived.Deep.WholeRow
namespace Go.Proofs.YtidicogmfpfibabFmt
open Go.ChangeShapes Go.WideShapes Go.ChangeAt Go.RowKit
set_option linter.unusedVariables false
set_option maxRecDepth 100000
set_option maxHeartbeats 2000000

open Go.MuLone
theorem len82 (a : Option Addr) (n c : Nat) (W : World) : Calls Tryf.prog 90 #[.slice a n c] W fun e w' => e = .returned (.int .i64 n) ∧ W = w' := by
  go_enter Tryf.func90, Tryf.ntmps90
  go_wp2
  go_ret
  exact ⟨rfl, rfl⟩
theorem ld_mid {P : Program} {w : World} {p : Nat} {cs : Array Value} {t : TypeId} (h : RowAt w p cs t) (T off : Nat) (d : TypeDesc) (vs : List Value) (hs : (cs.toList.drop off).take vs.length = vs) (hu : P.underlying T = some d) (hd : d.isRow = true)
    (hi : (P.info? T).map (·.size) = some vs.length) : (loadVar T ⟨p, off, none⟩).run P w = .ok (.agg vs.toArray) w :=
  run_loadVar_mid w p off T vs d (fun j v hv => by
    rw [← hs, List.getElem?_take] at hv
    split at hv
    · rw [List.getElem?_drop] at hv
      exact h.cellv (by simpa using hv)
    · cases hv) hu hd hi
theorem rangeAt_mid {w : World} {p : Nat} {cs : Array Value} {t : TypeId} (h : RowAt w p cs t) (off : Nat) (vs : List Value) (hs : (cs.toList.drop off).take vs.length = vs) : w.rangeAt p off vs := fun j v hv => by
  rw [← hs, List.getElem?_take] at hv
  split at hv
  · rw [List.getElem?_drop] at hv
    exact h.cellv (by simpa using hv)
  · cases hv
/-- The messages of a slice: each with its notes, its location and its text. -/
structure Msgs (W : World) (g : Nat) (n : Nat) (Nt : Nat → Option Addr × Nat × Nat) (Lc : Nat → Option Addr) (T : Nat → ByteArray) (cs : Array Value) : Prop where
  row : RowAt W g cs 35
  at8 : ∀ i, i < n → (cs.toList.drop (i * 8)).take 8 = msgV (.slice (Nt i).1 (Nt i).2.1 (Nt i).2.2) (.pointer (Lc i)) (T i)
theorem Msgs.below {W W' : World} {g n B : Nat} {Nt : Nat → Option Addr × Nat × Nat} {Lc : Nat → Option Addr} {T : Nat → ByteArray} {cs : Array Value} (H : Msgs W g n Nt Lc T cs) (hb : Below B W W') (hB : W.heap.size ≤ B) : Msgs W' g n Nt Lc T cs := ⟨H.row.below hb (Nat.lt_of_lt_of_le H.row.lt hB), H.at8⟩
set_option maxHeartbeats 4000000 in
theorem less83 (g n c i j : Nat) (Nt : Nat → Option Addr × Nat × Nat) (T : Nat → ByteArray) (cs : Array Value) (W : World) (H : Msgs W g n Nt (fun _ => none) T cs) (hi : i < n) (hj : j < n) (hn : n ≤ 100000) :
    Calls Tryf.prog 91 #[.slice (some ⟨g, 0, none⟩) n c, .int .i64 i, .int .i64 j] W fun e w' => e = .returned (.bool false) ∧ Below W.heap.size W w' := by
  have HM := Lib.hid H
  clear H
  obtain ⟨a1, l1, c1, e1⟩ : ∃ a l c, Nt i = (a, l, c) := ⟨_, _, _, rfl⟩
  obtain ⟨a2, l2, c2, e2⟩ : ∃ a l c, Nt j = (a, l, c) := ⟨_, _, _, rfl⟩
  obtain ⟨t1, f1⟩ : ∃ t, T i = t := ⟨_, rfl⟩
  obtain ⟨t2, f2⟩ : ∃ t, T j = t := ⟨_, rfl⟩
  have h1 : ∀ W', Below W.heap.size W W' → W'.rangeAt g (i * 8) [.slice a1 l1 c1, .string ⟨#[]⟩, .nilIface, .pointer none, .string t1, .bool false, .int .u8 0, .int .u8 0] := fun W' hb => rangeAt_mid (HM.out.row.below hb HM.out.row.lt) (i * 8) _ (by have := HM.out.at8 i hi; rw [e1, f1] at this; exact this)
  have h2 : ∀ W', Below W.heap.size W W' → W'.rangeAt g (j * 8) [.slice a2 l2 c2, .string ⟨#[]⟩, .nilIface, .pointer none, .string t2, .bool false, .int .u8 0, .int .u8 0] := fun W' hb => rangeAt_mid (HM.out.row.below hb HM.out.row.lt) (j * 8) _ (by have := HM.out.at8 j hj; rw [e2, f2] at this; exact this)
  have H1 := Lib.hid h1
  have H2 := Lib.hid h2
  clear h1 h2 HM e1 e2 f1 f2
  go_enter Tryf.func91, Tryf.ntmps91
  go_upto_region 2 with (first
    | (refine wpList_load_mid rfl 35 _ rfl g (i * 8) (by rfl) [.slice a1 l1 c1, .string ⟨#[]⟩, .nilIface, .pointer none, .string t1, .bool false, .int .u8 0, .int .u8 0] _ (H1.out _ (Below.refl _ _)) Tryf.underlying35 rfl (by kernel_rfl) ?_)
    | (refine wpList_store_row rfl 35 _ _ rfl W.heap.size #[.slice a1 l1 c1, .string ⟨#[]⟩, .nilIface, .pointer none, .string t1, .bool false, .int .u8 0, .int .u8 0] (by rfl) (by rfl) 35 _ (heap_alloc_new _ _) (by kernel_rfl) (by kernel_rfl) (by kernel_rfl) ?_))
  rw [World.setRow_alloc_new]
  obtain ⟨W1, hW1⟩ : ∃ W1, W1 = W.alloc (.cells #[.slice a1 l1 c1, .string ⟨#[]⟩, .nilIface, .pointer none, .string t1, .bool false, .int .u8 0, .int .u8 0] 35) := ⟨_, rfl⟩
  have hb1 : Below W.heap.size W W1 := by rw [hW1]; exact (Below.refl _ _).alloc (Nat.le_refl _) _
  have hr1 : RowAt W1 W.heap.size #[.slice a1 l1 c1, .string ⟨#[]⟩, .nilIface, .pointer none, .string t1, .bool false, .int .u8 0, .int .u8 0] 35 := by rw [hW1]; exact RowAt.new W _ _
  rw [← hW1]
  have HB1 := Lib.hid hb1
  have HR1 := Lib.hid hr1
  clear hW1 hb1 hr1
  obtain ⟨b7, hb7⟩ : ∃ b7, b7 = W.heap.size := ⟨_, rfl⟩
  rw [← hb7] at HR1
  simp only [← hb7]
  clear hb7
  go_upto_region 3 with (first
    | (refine wpList_load_mid rfl 35 _ rfl g (j * 8) (by rfl) [.slice a2 l2 c2, .string ⟨#[]⟩, .nilIface, .pointer none, .string t2, .bool false, .int .u8 0, .int .u8 0] _ (H2.out _ HB1.out) Tryf.underlying35 rfl (by kernel_rfl) ?_)
    | (refine wpList_store_row rfl 35 _ _ rfl W1.heap.size #[.slice a2 l2 c2, .string ⟨#[]⟩, .nilIface, .pointer none, .string t2, .bool false, .int .u8 0, .int .u8 0] (by rfl) (by rfl) 35 _ (heap_alloc_new _ _) (by kernel_rfl) (by kernel_rfl) (by kernel_rfl) ?_))
  rw [World.setRow_alloc_new]
  have c1' := (HR1.out.alloc (.cells #[.slice a2 l2 c2, .string ⟨#[]⟩, .nilIface, .pointer none, .string t2, .bool false, .int .u8 0, .int .u8 0] 35)).cellv (j := 3) (v := .pointer none) rfl
  have c2' := (RowAt.new W1 #[.slice a2 l2 c2, .string ⟨#[]⟩, .nilIface, .pointer none, .string t2, .bool false, .int .u8 0, .int .u8 0] 35).cellv (j := 3) (v := .pointer none) rfl
  have hb2 : Below W.heap.size W (W1.alloc (.cells #[.slice a2 l2 c2, .string ⟨#[]⟩, .nilIface, .pointer none, .string t2, .bool false, .int .u8 0, .int .u8 0] 35)) := HB1.out.alloc HB1.out.size _
  obtain ⟨W2, hW2⟩ : ∃ W2, W2 = W1.alloc (.cells #[.slice a2 l2 c2, .string ⟨#[]⟩, .nilIface, .pointer none, .string t2, .bool false, .int .u8 0, .int .u8 0] 35) := ⟨_, rfl⟩
  rw [← hW2] at c1' c2' hb2 ⊢
  have HB2 := Lib.hid hb2
  clear hW2 hb2 HB1 HR1 H1 H2
  go_wp2
  go_ret
  exact ⟨rfl, HB2.out⟩
set_option maxHeartbeats 4000000 in
theorem ins29 (g n c : Nat) (Nt : Nat → Option Addr × Nat × Nat) (T : Nat → ByteArray) (cs : Array Value) (W : World) (H : Msgs W g n Nt (fun _ => none) T cs) (hn : n ≤ 19) :
    Calls Tryf.prog 38 #[.iface 168 (.slice (some ⟨g, 0, none⟩) n c), .int .i64 0, .int .i64 n] W fun e w' => e = .returned (.tuple #[]) ∧ Below W.heap.size W w' := by
  have HM := Lib.hid H
  clear H
  go_enter Tryf.func38, Tryf.ntmps38
  go_wp2_with fail
  go_loopw [6] (fun v6 wr => ∃ k : Nat, 1 ≤ k ∧ v6 = .int .i64 k ∧ Below W.heap.size W wr) (fun v6 _ => n - (intOf v6).toNat)
  case atStart => exact ⟨1, by omega, rfl, Below.refl _ _⟩
  case round =>
    obtain ⟨k, hk, rfl, hb⟩ := hrel
    have HB := Lib.hid hb
    clear hb
    by_cases hlt : k < n
    · have hk0 : 0 < k := by omega
      go_wp2_with fail
      refine wp_loop_once ?_
      go_wp2_with fail
      rw [show ((k : Int) - 1) = ((k - 1 : Nat) : Int) by omega]
      refine (less83 g n c k (k - 1) Nt T cs wr (HM.out.below HB.out (Nat.le_refl _)) hlt (by omega) (by omega)).mono ?_
      rintro e w1 ⟨rfl, hb1⟩
      have HB1 := Lib.hid (HB.out.trans (hb1.mono HB.out.size))
      clear hb1
      go_wp2_with fail
      go_roundw
      case rel => exact ⟨k + 1, by omega, by go_num, HB1.out⟩
      case measure => simp [intOf]; omega
    · go_wp2
      go_end0
      exact ⟨rfl, HB.out⟩
set_option maxHeartbeats 4000000 in
theorem stab19 (g n c : Nat) (Nt : Nat → Option Addr × Nat × Nat) (T : Nat → ByteArray) (cs : Array Value) (W : World) (H : Msgs W g n Nt (fun _ => none) T cs) (hn : n ≤ 19) :
    Calls Tryf.prog 22 #[.iface 168 (.slice (some ⟨g, 0, none⟩) n c), .int .i64 n] W fun e w' => e = .returned (.tuple #[]) ∧ Below W.heap.size W w' := by
  go_enter Tryf.func22, Tryf.ntmps22
  go_wp2_with fail
  refine wp_loop_once ?_
  go_wp2_with fail
  refine (ins29 g n c Nt T cs W H hn).mono ?_
  rintro e w1 ⟨rfl, hb1⟩
  have HB := Lib.hid hb1
  clear hb1 H
  go_wp2_with fail
  refine wp_loop_once ?_
  go_wp2_with fail
  go_end0
  exact ⟨rfl, HB.out⟩
theorem stab15 (g n c : Nat) (Nt : Nat → Option Addr × Nat × Nat) (T : Nat → ByteArray) (cs : Array Value) (W : World) (H : Msgs W g n Nt (fun _ => none) T cs) (hn : n ≤ 19) :
    Calls Tryf.prog 17 #[.iface 168 (.slice (some ⟨g, 0, none⟩) n c)] W fun e w' => e = .returned (.tuple #[]) ∧ Below W.heap.size W w' := by
  go_enter Tryf.func17, Tryf.ntmps17
  go_wp2_with fail
  refine (len82 _ n c W).mono ?_
  rintro e w1 ⟨rfl, rfl⟩
  go_wp2_with fail
  refine (stab19 g n c Nt T cs W H hn).mono ?_
  rintro e w1 ⟨rfl, hb1⟩
  have HB := Lib.hid hb1
  clear hb1 H
  go_wp2_with fail
  go_end0
  exact ⟨rfl, HB.out⟩
theorem ins29_nil (W : World) : Calls Tryf.prog 38 #[.iface 168 (.slice none 0 0), .int .i64 0, .int .i64 0] W fun e w' => e = .returned (.tuple #[]) ∧ W = w' := by
  go_enter Tryf.func38, Tryf.ntmps38
  go_wp2_with fail
  refine wp_loop_once ?_
  go_wp2_with fail
  go_end0
  exact ⟨rfl, rfl⟩
theorem stab19_nil (W : World) : Calls Tryf.prog 22 #[.iface 168 (.slice none 0 0), .int .i64 0] W fun e w' => e = .returned (.tuple #[]) ∧ W = w' := by
  go_enter Tryf.func22, Tryf.ntmps22
  go_wp2_with fail
  refine wp_loop_once ?_
  go_wp2_with fail
  refine (ins29_nil W).mono ?_
  rintro e w1 ⟨rfl, rfl⟩
  go_wp2_with fail
  refine wp_loop_once ?_
  go_wp2_with fail
  go_end0
  exact ⟨rfl, rfl⟩
/-- No message: nothing is sorted. -/
theorem stab15_nil (W : World) : Calls Tryf.prog 17 #[.iface 168 (.slice none 0 0)] W fun e w' => e = .returned (.tuple #[]) ∧ W = w' := by
  go_enter Tryf.func17, Tryf.ntmps17
  go_wp2_with fail
  refine (len82 none 0 0 W).mono ?_
  rintro e w1 ⟨rfl, rfl⟩
  go_wp2_with fail
  refine (stab19_nil W).mono ?_
  rintro e w1 ⟨rfl, rfl⟩
  go_wp2_with fail
  go_end0
  exact ⟨rfl, rfl⟩

end Go.Proofs.YtidicogmfpfibabFmt
