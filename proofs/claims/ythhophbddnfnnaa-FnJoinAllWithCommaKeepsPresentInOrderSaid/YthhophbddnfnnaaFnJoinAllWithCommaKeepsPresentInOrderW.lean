import Derived.Test.YthhophbddnfnnaaKit
import Derived.Test.YthhophbddnfnnaaJoinC
import Derived.LaidEqlPtr
namespace Go.Proofs.Ythhophbddnfnnaa.fnJoinAllWithCommaKeepsPresentInOrder
open Go.ChangeShapes Go.WideShapes Go.ChangeAt Go.RowKit
set_option linter.unusedVariables false
set_option maxRecDepth 100000
set_option maxHeartbeats 2000000

theorem nums_nil (w : World) : Calls Try.prog 17 #[.slice none 0 0] w fun e w' => e = .returned (.slice (some ⟨w.heap.size, 0, none⟩) 0 0) ∧ Below w.heap.size w w' ∧ Items w' w.heap.size 0 0 [] (fun _ => 0) := by
  obtain ⟨i0, hi, hz0, hz1, hz2⟩ := info_parts info27
  go_enter Try.func17, Try.ntmps17
  go_wp2_with (at_make; refine wpList_make_full _ rfl _ _ 43 rfl w.heap.size 27 i0 _ 2 Try.underlying43 hi hz0 hz1 .i64 .i64 _ _ 0 rfl rfl rfl rfl (by rw [hz2]; omega) (by unfold maxLen; omega) (Nat.le_refl _) ?_; intro w1 hown hgrow)
  have hb1 : Below w.heap.size w w1 := (Below.refl _ _).grown hgrow (Nat.le_refl _) (fun k hk => by cases hk)
  have hI : Hid (Items w1 w.heap.size 0 0 [] (fun _ => 0)) := Items.start hown
  clear hown hgrow
  go_rounds 1
  go_ret
  exact ⟨rfl, hb1, hI.out⟩

theorem nums_any (a : Option Addr) (n c : Nat) (z : List Int) (w : World) (hn : n ≤ 16384) (h : (a = none ∧ n = 0 ∧ c = 0) ∨ ∃ x, a = some x ∧ ∀ i, i < n → w.cell? (x.add i) = some (.int .i64 (z.getD i 0))) :
    Calls Try.prog 17 #[.slice a n c] w fun e w' => e = .returned (.slice (some ⟨w.heap.size, 0, none⟩) n n) ∧ (∃ P, Items w' w.heap.size n n z P) ∧ Below w.heap.size w w' := by
  rcases h with ⟨rfl, rfl, rfl⟩ | ⟨x, rfl, h⟩
  · refine (nums_nil w).mono ?_
    rintro e w1 ⟨rfl, h1, cs, h2, h3, _⟩
    exact ⟨rfl, ⟨fun _ => 0, cs, h2, h3, fun i hi => by omega⟩, h1⟩
  · exact nums x n c z w hn h

theorem zzb (a : Option Addr) (n c : Nat) (w : World) (hn : n ≤ 16384) : Calls Try.prog 16 #[.slice a n c] w fun e w' => e = .returned (.bool true) ∧ w = w' := by
  go_enter Try.func16, Try.ntmps16
  go_wp2
  go_ret
  exact ⟨rfl, rfl⟩

theorem zzb_no (a : Option Addr) (n c : Nat) (w : World) (hm : n ≤ 9223372036854775807) (hn : 1048576 < n) : Calls Try.prog 16 #[.slice a n c] w fun e w' => e = .returned (.bool false) ∧ w = w' := by
  go_enter Try.func16, Try.ntmps16
  go_wp2
  go_ret
  exact ⟨rfl, rfl⟩

theorem zzb_mid (a : Option Addr) (n c : Nat) (w : World) (hn : n ≤ 1048576) : Calls Try.prog 16 #[.slice a n c] w fun e w' => e = .returned (.bool true) ∧ w = w' := by
  go_enter Try.func16, Try.ntmps16
  go_wp2
  go_ret
  exact ⟨rfl, rfl⟩

theorem info47 : (Try.prog.info? 47).map (fun i => (i.zero, i.size, i.bytes)) = some (some (.pointer none), 1, 8) := by kernel_rfl
theorem info21 : (Try.prog.info? 21).map (fun i => (i.zero, i.size, i.bytes)) = some (some (.int .i32 0), 1, 4) := by kernel_rfl

def ptrs (P : Nat → Nat) (is : List Nat) : List Value := is.map fun i => .pointer (some ⟨P i, 0, none⟩)
def locs (is : List Nat) : List Value := is.map fun (i : Nat) => .int .i32 (i : Int)

theorem shape {w : World} {B e size n : Nat} {v : Value} {xs : List Value} (h : w.ownsRow B e size v n xs) : ∃ a c, v = .slice a n c := by
  rcases h.2 with ⟨rfl, rfl⟩ | ⟨g, cap, cur, rfl, _⟩
  · exact ⟨_, _, rfl⟩
  · exact ⟨_, _, rfl⟩

theorem own_base {w : World} {B e size n : Nat} {v : Value} {xs : List Value} (h : w.ownsRow B e size v n xs) : ∀ g, v.ownBlock = some g → B ≤ g := by
  intro g hg
  rcases h.2 with ⟨rfl, _⟩ | ⟨g', cap, cur, rfl, hB, _⟩
  · simp [Value.ownBlock] at hg
  · simp [Value.ownBlock] at hg
    omega

theorem idxs_le (z : List Int) (k : Nat) : (idxs z k).length ≤ k := by
  have := List.length_filter_le (fun i => z.getD i 0 != 0) (List.range k)
  simpa [idxs] using this

/-- Two rows of different element types never share their block. -/
theorem own_ne {w : World} {B e e' n n' : Nat} {a a' : Option Addr} {c c' : Nat} {xs xs' : List Value} (h : w.ownsRow B e 1 (.slice a n c) n xs) (h' : w.ownsRow B e' 1 (.slice a' n' c') n' xs') (hne : e ≠ e') : Value.ownBlock (.slice a n c) = none ∨ Value.ownBlock (.slice a n c) ≠ Value.ownBlock (.slice a' n' c') := by
  rcases h.2 with ⟨hv, _⟩ | ⟨g, cap, cur, hv, _, hh, _⟩
  · rw [hv]; exact .inl rfl
  · rcases h'.2 with ⟨hv', _⟩ | ⟨g', cap', cur', hv', _, hh', _⟩
    · rw [hv, hv']; exact .inr (by simp [Value.ownBlock])
    · rw [hv, hv']
      refine .inr fun e0 => ?_
      simp [Value.ownBlock] at e0
      subst e0
      rw [hh] at hh'
      simp at hh'
      exact hne hh'.2

/-- A chain's blocks are old ones. -/
theorem Chain.old {X : Nat → Prop} {w : World} {P : Nat → Nat} : ∀ {is : List Nat} {d l : Value}, Chain X w P is d l → Chain (fun b => w.heap.size ≤ b) w P is d l
  | [], _, _, h => h
  | [i], _, _, h => h
  | i :: j :: r, d, l, h => by
    obtain ⟨b, d', e, hX, h0, h1, h2, h3, h4, h⟩ := h
    have : b < w.heap.size := cell_lt h0
    exact ⟨b, d', e, by show ¬ _ ≤ _; omega, h0, h1, h2, h3, h4, h.old⟩

theorem rev_step {I : List Nat} {m i : Nat} (h : I[m]? = some i) : (I.take (m + 1)).reverse = i :: (I.take m).reverse := by
  rw [List.take_add_one, h]
  simp

theorem Chain.split {X : Nat → Prop} {w : World} {P : Nat → Nat} {I : List Nat} {m i : Nat} {d l : Value} (hi : I[m]? = some i) (h1 : 1 ≤ m) (hm : m < I.length) (hC : Chain X w P (I.take (m + 1)).reverse d l) :
    ∃ b d', d = .iface 50 (.pointer (some ⟨b, 0, none⟩)) ∧ w.cell? ⟨b, 0, none⟩ = some d' ∧ w.cell? ⟨b, 1, none⟩ = some l ∧ w.cell? ⟨b, 2, none⟩ = some (num P i) ∧
      w.cell? ⟨b, 3, none⟩ = some (.int .i32 i) ∧ w.cell? ⟨b, 4, none⟩ = some (.int .u8 36) ∧ Chain X w P (I.take m).reverse d' l := by
  obtain ⟨m', rfl⟩ : ∃ m', m = m' + 1 := ⟨m - 1, by omega⟩
  obtain ⟨j, hj⟩ : ∃ j, I[m']? = some j := ⟨_, List.getElem?_eq_getElem (by omega)⟩
  rw [rev_step hi, rev_step hj] at hC
  obtain ⟨b, d', e, hX, z0, z1, z2, z3, z4, hC⟩ := hC
  rw [← rev_step hj] at hC
  exact ⟨b, d', e, z0, z1, z2, z3, z4, hC⟩

theorem below_drewN {B : Nat} {w w' : World} (h : Below B w w') (n : Nat) : Below B w (w'.drewN n) := ⟨h.os, h.tape, h.output, h.size, h.block⟩

theorem eqlP (p : Addr) (W : World) : (binOp .eql 47 (.pointer (some p)) (.pointer (some p))).run Try.prog W = .ok (.bool true) W := by
  obtain ⟨j, hj⟩ : ∃ j, Try.prog.info? 87 = some j := Option.isSome_iff_exists.1 (by kernel_rfl)
  exact run_eql_ptr_same W p Try.underlying47 hj

theorem neqP (p : Addr) (W : World) : (binOp .neq 47 (.pointer (some p)) (.pointer (some p))).run Try.prog W = .ok (.bool false) W := by
  obtain ⟨j, hj⟩ : ∃ j, Try.prog.info? 87 = some j := Option.isSome_iff_exists.1 (by kernel_rfl)
  have h : ∀ d : Nat, (Op.equalIn (d + 1) 47 (.pointer (some p)) (.pointer (some p))).run Try.prog W = .ok true W := fun d => by
    simp [Op.equalIn, run_underlying Try.underlying47, sizeOf, typeInfo, hj, run_sameAddr_same]
  simp only [binOp]
  simp [Op.equal, Op.maxDepth, h 9999]

theorem walkIn (a : Option Addr) (n c : Nat) (z : List Int) (w : World) (hn : n ≤ 16384) (h : (a = none ∧ n = 0 ∧ c = 0) ∨ ∃ x, a = some x ∧ ∀ i, i < n → w.cell? (x.add i) = some (.int .i64 (z.getD i 0))) :
    Calls Try.prog 5 #[.slice a n c] w fun e w' => e = .returned (.bool true) ∧ Below w.heap.size w w' := by
  obtain ⟨i47, t1, t2, t3, t4⟩ := info_parts info47
  obtain ⟨i21, s1, s2, s3, s4⟩ := info_parts info21
  have H := Lib.hid h
  clear h
  go_enter Try.func5, Try.ntmps5
  go_wp2_with fail
  refine (zzb _ _ _ _ hn).mono ?_
  rintro e w1 ⟨rfl, rfl⟩
  go_wp2_with fail
  refine (nums_any _ _ _ z _ hn H.out).mono ?_
  rintro e w1 ⟨rfl, ⟨P, hI⟩, hb1⟩
  have HI := Lib.hid hI
  clear hI H
  go_wp2_with fail
  go_loopw [4, 5, 6, 7, 8] (fun v4 v5 v6 v7 v8 wr => ∃ (k : Nat) (a4 a5 : Option Addr) (c4 c5 : Nat), k ≤ n ∧ v6 = .int .i64 k ∧ v4 = .slice a4 (idxs z k).length c4 ∧ v5 = .slice a5 (idxs z k).length c5 ∧
      wr.ownsRow w1.heap.size 47 1 (.slice a4 (idxs z k).length c4) (idxs z k).length (ptrs P (idxs z k)) ∧ wr.ownsRow w1.heap.size 21 1 (.slice a5 (idxs z k).length c5) (idxs z k).length (locs (idxs z k)) ∧ Below w1.heap.size w1 wr) (fun _ _ v6 _ _ _ => n - (intOf v6).toNat)
  case atStart => exact ⟨0, none, none, 0, 0, Nat.zero_le _, rfl, rfl, rfl, World.ownsRow_nil _ _ _ _, World.ownsRow_nil _ _ _ _, Below.refl _ _⟩
  case round =>
    obtain ⟨k, a4, a5, c4, c5, hk, rfl, rfl, rfl, ho4, ho5, hb⟩ := hrel
    have hle := idxs_le z k
    have hsz := hb.size
    by_cases hlt : k < n
    · obtain ⟨cs, hr, hs, hx⟩ := HI.out
      obtain ⟨h1, _⟩ := hx k hlt
      rw [if_pos hlt] at h1
      have i0 := (hr.below hb hr.lt).cellv h1
      clear hr hs hx h1
      by_cases hz : z.getD k 0 = 0
      · rw [itemD, if_pos hz] at i0
        have HX : Hid (idxs z (k + 1) = idxs z k) := idxs_hole hz
        obtain ⟨cnt, hcnt⟩ : ∃ m, (idxs z k).length = m := ⟨_, rfl⟩
        have HO4 := Lib.hid ho4
        have HO5 := Lib.hid ho5
        clear hz ho4 ho5
        go_wp2
        go_roundw
        case rel => exact ⟨k + 1, a4, a5, c4, c5, by omega, by go_num, by rw [HX.out], by rw [HX.out], by rw [HX.out]; exact HO4.out, by rw [HX.out]; exact HO5.out, hb⟩
        case measure => simp [intOf]; omega
      · rw [itemD, if_neg hz, num] at i0
        have HX : Hid (idxs z (k + 1) = idxs z k ++ [k]) := idxs_more hz
        have HO5 := Lib.hid ho5
        clear hz ho5
        go_wp2_with (at_builtin; refine wpList_append_own _ rfl (.tmp 42) (.tmp 44) 45 rfl w1.heap.size 47 i47 (.pointer none) 1 8 Try.underlying45 t1 t2 t3 t4 rfl (by decide) _ _ _ rfl (ho4.alloc _) ⟨wr.heap.size, 0, none⟩ 1 1 [.pointer (some ⟨P k, 0, none⟩)] rfl rfl (cell_one_new _ _ _) ?_ ?_ ?_ ?_ ?_)
        · intro u hu
          simp at hu
          subst hu
          rfl
        · unfold maxLen; omega
        · omega
        · go_size
        intro v' w2 ho4' hg4 _
        obtain ⟨a4', c4', rfl⟩ := shape ho4'
        have ho5' := (HO5.out.alloc (.cells #[.pointer (some ⟨P k, 0, none⟩)] 47)).kept hg4 (own_ne (HO5.out.alloc (.cells #[.pointer (some ⟨P k, 0, none⟩)] 47)) (ho4.alloc _) (by decide))
        have HO4 := Lib.hid ho4'
        have hb2 : Below w1.heap.size w1 w2 := Below.grown (w' := w2) (by go_grown) hg4 (by go_size) (own_base ho4)
        clear ho4' hg4 ho4 HO5
        go_wp2_with (at_builtin; refine wpList_append_own _ rfl (.tmp 46) (.tmp 49) 46 rfl w1.heap.size 21 i21 (.int .i32 0) 1 4 Try.underlying46 s1 s2 s3 s4 rfl (by decide) _ _ _ rfl (ho5'.alloc _) ⟨w2.heap.size, 0, none⟩ 1 1 [.int .i32 k] rfl rfl (cell_one_new _ _ _) ?_ ?_ ?_ ?_ ?_)
        · intro u hu
          simp at hu
          subst hu
          rfl
        · unfold maxLen; omega
        · omega
        · have := hb2.size
          go_size
        intro v' w3 ho5'' hg5 _
        obtain ⟨a5', c5', rfl⟩ := shape ho5''
        have hsz2 := hb2.size
        have ho4'' := (HO4.out.alloc (.cells #[.int .i32 k] 21)).kept hg5 (own_ne (HO4.out.alloc (.cells #[.int .i32 k] 21)) (ho5'.alloc _) (by decide))
        have F4 := Lib.hid ho4''
        have F5 := Lib.hid ho5''
        have hb3 : Below w1.heap.size w1 w3 := Below.grown (w' := w3) (by go_grown) hg5 (by go_size) (own_base ho5')
        clear ho4'' ho5'' hg5 ho5' HO4 hb2
        go_wp2
        go_roundw
        case rel =>
          refine ⟨k + 1, a4', a5', c4', c5', by omega, by go_num, ?_, ?_, ?_, ?_, hb3⟩
          · rw [HX.out]; simp
          · rw [HX.out]; simp
          · rw [HX.out]; simpa [ptrs] using F4.out
          · rw [HX.out]; simpa [locs] using F5.out
        case measure => simp [intOf]; omega
    · obtain rfl : k = n := by omega
      clear t1 t2 t3 t4 s1 s2 s3 s4
      have HO4 := Lib.hid ho4
      have HO5 := Lib.hid ho5
      have I' : Hid (Items wr w.heap.size k k z P) := by
        obtain ⟨cs, hr, hs, hx⟩ := HI.out
        exact ⟨cs, hr.below hb hr.lt, hs, hx⟩
      obtain ⟨I, hI⟩ : ∃ I, idxs z k = I := ⟨_, rfl⟩
      rw [hI] at hle
      have H4 : Hid (wr.ownsRow w1.heap.size 47 1 (.slice a4 I.length c4) I.length (ptrs P I)) := by
        rw [← hI]; exact HO4.out
      have H5 : Hid (wr.ownsRow w1.heap.size 21 1 (.slice a5 I.length c5) I.length (locs I)) := by
        rw [← hI]; exact HO5.out
      simp only [hI]
      have HII := Lib.hid hI
      clear ho4 ho5 HO4 HO5 hI HI
      go_wp2_with fail
      refine (all_ w.heap.size k z P _ hn I'.out).mono ?_
      rintro e w2 ⟨d, q, rfl, hch, hb2⟩
      rw [HII.out] at hch
      have hst := fun (A : Addr) (W : World) (m : Mode) => run_store Try.prog W A d m hch.one
      have HCH := Lib.hid hch
      have B2 : Below w.heap.size w w2 := hb1.trans ((hb.mono hb1.size).trans (hb2.mono (Nat.le_trans hb1.size hb.size)))
      have hb20 := B2.size
      by_cases hI0 : I = []
      · subst hI0
        obtain rfl : d = .nilIface := hch
        clear HCH
        go_wp2
        go_ret
        exact ⟨rfl, by go_grown⟩
      · have hpos : 0 < I.length := List.length_pos_iff.2 hI0
        have hne0 : ((I.length : Int) == 0) = false := by simp; omega
        clear hch hI0
        obtain ⟨g4, rfl⟩ : ∃ g, a4 = some ⟨g, 0, none⟩ := by
          rcases H4.out.2 with ⟨_, h0⟩ | ⟨g, cap, cur, hv, _⟩
          · omega
          · cases hv
            exact ⟨_, rfl⟩
        obtain ⟨g5, rfl⟩ : ∃ g, a5 = some ⟨g, 0, none⟩ := by
          rcases H5.out.2 with ⟨_, h0⟩ | ⟨g, cap, cur, hv, _⟩
          · omega
          · cases hv
            exact ⟨_, rfl⟩
        obtain ⟨f, hf⟩ : ∃ f, I[0]? = some f := ⟨_, List.getElem?_eq_getElem hpos⟩
        have HF := Lib.hid hf
        clear hf
        have W4 : Hid (∀ m i, I[m]? = some i → w2.cell? ⟨g4, m, none⟩ = some (.pointer (some ⟨P i, 0, none⟩)) ∧ g4 < w2.heap.size) := by
          intro m i hi
          have hm : m < I.length := (List.getElem?_eq_some_iff.1 hi).1
          have e := H4.out.cellAt m (by omega)
          have hlt : g4 < wr.heap.size := by
            obtain ⟨cs, hr, _⟩ := RowAt.of_owns H4.out
            exact hr.lt
          refine ⟨?_, Nat.lt_of_lt_of_le hlt hb2.size⟩
          rw [hb2.cell (p := ⟨g4, m, none⟩) hlt, e]
          simp [ptrs, hi]
        have W5 : Hid (∀ m i, I[m]? = some i → w2.cell? ⟨g5, m, none⟩ = some (.int .i32 (i : Nat)) ∧ g5 < w2.heap.size) := by
          intro m i hi
          have hm : m < I.length := (List.getElem?_eq_some_iff.1 hi).1
          have e := H5.out.cellAt m (by omega)
          have hlt : g5 < wr.heap.size := by
            obtain ⟨cs, hr, _⟩ := RowAt.of_owns H5.out
            exact hr.lt
          refine ⟨?_, Nat.lt_of_lt_of_le hlt hb2.size⟩
          rw [hb2.cell (p := ⟨g5, m, none⟩) hlt, e]
          simp [locs, hi]
        obtain rfl : q = f := by
          have e := Chain.loc (i := f) (by rw [List.getLast?_reverse, List.head?_eq_getElem?]; exact HF.out) HCH.out
          simpa using e
        go_wp2_with fail
        go_loopw [11, 12, 13, 14, 15] (fun v11 v12 v13 v14 v15 w3 => ∃ (q : Int) (d : Value), 0 ≤ q ∧ q < I.length ∧ v11 = .int .i64 q ∧ RowAt w3 (w2.heap.size + 1) #[d, .int .i32 f] 27 ∧ Chain (fun b => w2.heap.size ≤ b) w2 P (I.take (q.toNat + 1)).reverse d (.int .i32 f) ∧ Below w2.heap.size w2 w3) (fun v11 _ _ _ _ _ => (intOf v11).toNat)
        case atStart =>
          refine ⟨(I.length : Int) - 1, d, by omega, by omega, rfl, RowAt.newAt (by go_size), ?_, by go_grown⟩
          have e1 : ((I.length : Int) - 1).toNat + 1 = I.length := by omega
          rw [e1, List.take_length]
          exact HCH.out.old
        case round =>
          clear HCH hst hb hb1 hb2 hsz
          obtain ⟨q, d, hq0, hq1, rfl, hR, hC, hb⟩ := hrel
          obtain ⟨m, rfl⟩ : ∃ m : Nat, q = m := ⟨q.toNat, by omega⟩
          simp only [Int.toNat_natCast] at hC
          have hm : m < I.length := by omega
          have pe := eqlP
          have pn := neqP
          have n0 := hR.cellv (j := 0) (v := d) rfl
          have n1 := hR.cellv (j := 1) (v := .int .i32 f) rfl
          have y0 := hR.frozen 0
          have y1 := hR.frozen 1
          have HR := Lib.hid hR
          have hsz := hb.size
          have hNlt := hR.lt
          obtain ⟨x0, l5⟩ := W5.out 0 f HF.out
          have k0 := (hb.cell (p := ⟨g5, 0, none⟩) l5).trans x0
          clear hR x0
          by_cases h1 : 1 ≤ m
          · obtain ⟨i, hi⟩ : ∃ i, I[m]? = some i := ⟨_, List.getElem?_eq_getElem hm⟩
            obtain ⟨b, d', rfl, z0, z1, z2, z3, z4, hC⟩ := hC.split hi h1 hm
            obtain ⟨x4, l4⟩ := W4.out _ i hi
            obtain ⟨x5, _⟩ := W5.out _ i hi
            have k4 := (hb.cell (p := ⟨g4, m, none⟩) l4).trans x4
            have k5 := (hb.cell (p := ⟨g5, m, none⟩) l5).trans x5
            have lb : b < w2.heap.size := cell_lt z0
            have p0 := (hb.cell (p := ⟨b, 0, none⟩) lb).trans z0
            have p1 := (hb.cell (p := ⟨b, 1, none⟩) lb).trans z1
            have p2 := (hb.cell (p := ⟨b, 2, none⟩) lb).trans z2
            have p3 := (hb.cell (p := ⟨b, 3, none⟩) lb).trans z3
            have p4 := (hb.cell (p := ⟨b, 4, none⟩) lb).trans z4
            unfold num at p2
            have hst := fun (A : Addr) (W : World) (m : Mode) => run_store Try.prog W A d' m hC.one
            have HC := Lib.hid hC
            clear hC z0 z1 z2 z3 z4 x4 x5 hi
            go_wp2_with fail
            go_quiet (fail)
            go_wp2_with fail
            go_quiet (fail)
            go_wp2_with fail
            go_roundw
            case rel =>
              refine ⟨(m : Int) - 1, d', by omega, by omega, rfl, ?_, ?_, by (go_grown; exact below_drewN hb _)⟩
              · exact two_cells HR.out _ _
              · have e1 : ((m : Int) - 1).toNat + 1 = m := by omega
                rw [e1]
                exact HC.out
            case measure => first | (simp [intOf]; done) | (simp [intOf]; omega)
          · obtain rfl : m = 0 := by omega
            rw [rev_step HF.out] at hC
            obtain ⟨rfl, -⟩ := hC
            obtain ⟨x4, l4⟩ := W4.out _ f HF.out
            have k4 := (hb.cell (p := ⟨g4, 0, none⟩) l4).trans x4
            clear x4
            unfold num at *
            go_wp2_with fail
            go_quiet (fail)
            go_wp2_with fail
            go_ret
            exact ⟨rfl, below_drewN (B2.trans (hb.mono hb20)) _⟩

theorem walk (a0 : Option Addr) (len0 cap0 : Nat) (z0 : List Int) (w : World) (w0 : IsRow .i64 w a0 len0 cap0 z0) :
    Calls Try.prog 5 #[.slice a0 len0 cap0] w fun e w' => e = .returned (.bool true) ∧ Below w.heap.size w w' := by
  have h : (a0 = none ∧ len0 = 0 ∧ cap0 = 0) ∨ ∃ x, a0 = some x ∧ ∀ i, i < len0 → w.cell? (x.add i) = some (.int .i64 (z0.getD i 0)) := by
    rcases w0 with ⟨rfl, rfl, rfl, rfl⟩ | ⟨x, rfl, hl, hm, hz, hcell, hwz⟩
    · exact .inl ⟨rfl, rfl, rfl⟩
    · exact .inr ⟨x, rfl, fun i hi => hcell i (by omega)⟩
  have hm : len0 ≤ 9223372036854775807 := by
    rcases w0 with ⟨rfl, rfl, rfl, rfl⟩ | ⟨x, rfl, hl, hm, hz, hcell, hwz⟩
    · omega
    · unfold maxLen at hm; omega
  by_cases h1 : 16384 < len0
  · clear h w0
    by_cases h2 : 1048576 < len0
    · go_enter Try.func5, Try.ntmps5
      go_wp2_with fail
      refine (zzb_no _ _ _ _ hm h2).mono ?_
      rintro e w1 ⟨rfl, rfl⟩
      go_wp2
      go_ret
      exact ⟨rfl, Below.refl _ _⟩
    · go_enter Try.func5, Try.ntmps5
      go_wp2_with fail
      refine (zzb_mid _ _ _ _ (by omega)).mono ?_
      rintro e w1 ⟨rfl, rfl⟩
      go_wp2
      go_ret
      exact ⟨rfl, Below.refl _ _⟩
  · exact walkIn a0 len0 cap0 z0 w (by omega) h

end Go.Proofs.Ythhophbddnfnnaa.fnJoinAllWithCommaKeepsPresentInOrder
