import Derived.Test.YtkncfhhiookgdacDoorKit
import Derived.Test.YtkncfhhiookgdacDoorAs
import Derived.Test.YtkncfhhiookgdacDoorIpG
import Derived.Deep.RegionLaw
namespace Go.Proofs.YtkncfhhiookgdacDoor
open Go.ChangeShapes Go.WideShapes Go.ChangeAt Go.RowKit
set_option linter.unusedVariables false
set_option maxRecDepth 100000
set_option maxHeartbeats 2000000

open Go.Extern
theorem PRow.setP {W : World} {pr N K k : Nat} {D T : Nat → Value} (h : PRow W pr N K D T) (hN : K ≤ N) (hk : k < K) (d : Value) : PRow ((W.setCell ⟨pr, k * 5, none⟩ d).setCell ⟨pr, k * 5 + 1, none⟩ (.int .i32 0)) pr N K (fun i => if i = k then d else D i) T := by
  obtain ⟨cs, r, s, e⟩ := h
  refine ⟨_, (r.set (k * 5) d).set (k * 5 + 1) (.int .i32 0), by simp [s], fun i hi q hq => ?_⟩
  have e1 := e i hi q hq
  rw [Array.getElem?_setIfInBounds, Array.getElem?_setIfInBounds]
  by_cases hij : i = k
  · subst hij
    have h0 : i * 5 < cs.size := by omega
    have h1 : i * 5 + 1 < cs.size := by omega
    rcases (show q = 0 ∨ q = 1 ∨ q = 2 ∨ q = 3 ∨ q = 4 by omega) with rfl | rfl | rfl | rfl | rfl
    · simp [pv, h0]
    · simp [pv, h1]
    · rw [if_neg (by omega), if_neg (by omega), e1]; simp [pv]
    · rw [if_neg (by omega), if_neg (by omega), e1]; simp [pv]
    · rw [if_neg (by omega), if_neg (by omega), e1]; simp [pv]
  · rw [if_neg (by omega), if_neg (by omega), e1]
    simp [hij]
theorem setPt {W : World} {pr : Nat} {es : Array Value} (r : RowAt W pr es 53) (a b : Nat) (x y : Value) (o : Obj) :
    K16 W (((W.setCell ⟨pr, a, none⟩ x).setCell ⟨pr, b, none⟩ y).alloc o) ∧ KP W (((W.setCell ⟨pr, a, none⟩ x).setCell ⟨pr, b, none⟩ y).alloc o) ∧
    (∀ B, B ≤ pr → Below B W (((W.setCell ⟨pr, a, none⟩ x).setCell ⟨pr, b, none⟩ y).alloc o)) := by
  have q : ∀ g es t, g ≠ pr → RowAt W g es t → RowAt (((W.setCell ⟨pr, a, none⟩ x).setCell ⟨pr, b, none⟩ y).alloc o) g es t := fun g es t hg h => ((h.set_other hg a x).set_other hg b y).alloc o
  exact ⟨fun g es h u => ⟨es, q _ _ _ (row_ne h r (by decide)) h, rfl, u⟩, fun g es t h _ ht => q _ _ _ (row_ne h r ht) h, fun B hB => (((Below.refl B W).setCell hB x).setCell hB y).alloc (by have := r.lt; simp; omega) o⟩
set_option maxHeartbeats 8000000 in
theorem new7 (hl : Int) (oh : Option Addr) (lh ch RS RV RT n b0 M : Nat) (S : Nat → Bool) (V T : Nat → Value) (w : World)
    (hS : Cells w RS 4 n (fun i => .bool (S i))) (hV : Cells w RV 22 n V) (hT : Cells w RT 22 n T) (uV : ∀ i, i < n → ∃ l, UW w b0 (V i) l ∧ l ≤ M) (uT : ∀ i, i < n → ∃ l, UW w b0 (T i) l ∧ l ≤ M) (hn : n ≤ 4096) (hb : b0 ≤ w.heap.size) :
    Calls Tryd.prog 7 #[.int .i32 hl, .slice oh lh ch, .slice (some ⟨RS, 0, none⟩) n n, .slice (some ⟨RV, 0, none⟩) n n, .slice (some ⟨RT, 0, none⟩) n n, .bool false] w fun e w' => ∃ t pr D, e = .returned (ptr t) ∧ RowAt w' t #[.nilIface, .int .i32 0, .string ByteArray.empty, .slice oh lh ch, .slice (some ⟨pr, 0, none⟩) n n, .int .i32 hl, .int .i32 0, .bool false, .bool false] 46 ∧ Parts w' b0 pr n n D T S M ∧ Below w.heap.size w w' := by
  obtain ⟨i0, hi, hz0, hz1, hz2⟩ := info_parts info53
  have HS := Lib.hid (And.intro hS (And.intro hV hT))
  have HU := Lib.hid (And.intro uV uT)
  clear hS hV hT uV uT
  go_enter Tryd.func7, Tryd.ntmps7
  go_wp2_with (at_make; refine wpList_make_full _ rfl _ _ 44 rfl w.heap.size 53 i0 _ 5 Tryd.underlying44 hi hz0 hz1 .i64 .i64 _ _ n rfl rfl rfl rfl (by rw [hz2]; omega) (by unfold maxLen; omega) (Nat.le_refl _) ?_)
  intro w1 hown hgrow
  have b1 : Below w.heap.size w w1 := (Below.refl _ _).grown hgrow (Nat.le_refl _) (fun k hk => by cases hk)
  have r1 : Rec w1 w.heap.size 53 5 n (fun _ j => pv .nilIface (.slice none 0 0) j) := (Rec.made hown rfl).congr fun i hi j hj => by
    rcases (show j = 0 ∨ j = 1 ∨ j = 2 ∨ j = 3 ∨ j = 4 by omega) with rfl | rfl | rfl | rfl | rfl <;> rfl
  have p1 : PRow w1 w.heap.size n n (fun _ => .nilIface) (fun _ => .slice none 0 0) := by
    obtain ⟨cs, r, s, e⟩ := r1
    exact ⟨cs, r, s, e⟩
  obtain ⟨pr, hpr⟩ : ∃ pr, pr = w.heap.size := ⟨_, rfl⟩
  rw [← hpr] at p1 ⊢
  have H1 := Lib.hid (And.intro b1 (And.intro p1 (show w.heap.size ≤ pr by omega)))
  clear hown hgrow b1 r1 p1 hpr
  go_wp2_with fail
  go_loopw [14] (fun v14 wr => ∃ (k : Nat) (D : Nat → Value), k ≤ n ∧ v14 = .int .i64 k ∧ PRow wr pr n n (fun i => if i < k then D i else .nilIface) (fun i => if i < k then T i else .slice none 0 0) ∧ (∀ i, i < k → PD wr b0 (D i) (S i) M) ∧ Below w.heap.size w wr) (fun v14 _ => n - (intOf v14).toNat)
  case atStart => exact ⟨0, fun _ => .nilIface, Nat.zero_le _, rfl, by simpa using H1.out.2.1, fun i hi => by omega, H1.out.1⟩
  case round =>
    obtain ⟨k, D, hk, rfl, hP, hD, hB⟩ := hrel
    have HP := Lib.hid (And.intro hP hD)
    have HB := Lib.hid hB
    have zr := hB.size
    clear hP hD hB
    by_cases hlt : k < n
    · have s0 := later (HS.out.1.cell hlt) HB.out
      have ls := cell_lt s0
      have p0 := HP.out.1.cell0 hlt
      have p1 := HP.out.1.cell hlt (j := 1) (by decide)
      have lpr := HP.out.1.lt
      have f0 : wr.frozen? ⟨pr, k * 5, none⟩ = false := by
        obtain ⟨_, r, _⟩ := HP.out.1
        exact r.frozen _
      have f1 : wr.frozen? ⟨pr, k * 5 + 1, none⟩ = false := by
        obtain ⟨_, r, _⟩ := HP.out.1
        exact r.frozen _
      simp only [Nat.lt_irrefl, if_false, pv, show ¬ (1 : Nat) = 0 from by decide, if_true] at p0 p1
      obtain ⟨lv, uv, hlv⟩ := HU.out.1 k hlt
      obtain ⟨ov, cv, ev⟩ := uv.sl
      have v0 := later (HS.out.2.1.cell hlt) HB.out
      have lv0 := cell_lt v0
      rw [ev] at v0 uv
      have HV := Lib.hid (And.intro uv hlv)
      clear uv hlv ev
      go_upto_if 28 with fail
      obtain ⟨wo, rfl⟩ : ∃ wo : World, wo = wr := ⟨_, rfl⟩
      go_cut [] (fun wx => ∃ d, PRow wx pr n n (fun i => if i = k then d else if i < k then D i else .nilIface) (fun i => if i < k then T i else .slice none 0 0) ∧ PD wx b0 d (S k) M ∧ K16 wo wx ∧ KP wo wx ∧ Below w.heap.size w wx)
      case first =>
        cases hs : S k with
        | true =>
          rw [hs] at s0
          go_wp2_with fail
          go_meet
          obtain ⟨cs, r, _⟩ := HP.out.1
          obtain ⟨q1, q2, q3⟩ := setPt r (k * 5) (k * 5 + 1) (.iface 49 (.pointer (some ⟨wo.heap.size, 0, none⟩))) (.int .i32 0) (.cells #[.slice ov lv cv, .int .i32 0, .bool false, .bool false, .bool false] 51)
          have rn := RowAt.new ((wo.setCell ⟨pr, k * 5, none⟩ (.iface 49 (.pointer (some ⟨wo.heap.size, 0, none⟩)))).setCell ⟨pr, k * 5 + 1, none⟩ (.int .i32 0)) #[.slice ov lv cv, .int .i32 0, .bool false, .bool false, .bool false] 51
          rw [show ((wo.setCell ⟨pr, k * 5, none⟩ (.iface 49 (.pointer (some ⟨wo.heap.size, 0, none⟩)))).setCell ⟨pr, k * 5 + 1, none⟩ (.int .i32 0)).heap.size = wo.heap.size from by simp] at rn
          exact ⟨.iface 49 (ptr wo.heap.size), (HP.out.1.setP (Nat.le_refl _) hlt _).moved (KO.of_below ((Below.refl _ _).alloc (Nat.le_refl _) _)), .inl ⟨hs, wo.heap.size, _, lv, _, _, _, _, rfl, Nat.le_trans hb zr, rn, (HV.out.1.moved (K16.of_below HB.out)).moved q1, HV.out.2⟩, q1, q2, HB.out.trans (q3 _ H1.out.2.2)⟩
        | false =>
          rw [hs] at s0
          go_wp2_with fail
          go_meet
          obtain ⟨cs, r, _⟩ := HP.out.1
          obtain ⟨q1, q2, q3⟩ := setPt r (k * 5) (k * 5 + 1) (.iface 54 (.pointer (some ⟨wo.heap.size, 0, none⟩))) (.int .i32 0) (.cells #[.int .u32 0, .int .u32 k, .bool false, .bool false, .bool false] 59)
          have rn := RowAt.new ((wo.setCell ⟨pr, k * 5, none⟩ (.iface 54 (.pointer (some ⟨wo.heap.size, 0, none⟩)))).setCell ⟨pr, k * 5 + 1, none⟩ (.int .i32 0)) #[.int .u32 0, .int .u32 k, .bool false, .bool false, .bool false] 59
          rw [show ((wo.setCell ⟨pr, k * 5, none⟩ (.iface 54 (.pointer (some ⟨wo.heap.size, 0, none⟩)))).setCell ⟨pr, k * 5 + 1, none⟩ (.int .i32 0)).heap.size = wo.heap.size from by simp] at rn
          exact ⟨.iface 54 (ptr wo.heap.size), (HP.out.1.setP (Nat.le_refl _) hlt _).moved (KO.of_below ((Below.refl _ _).alloc (Nat.le_refl _) _)), .inr ⟨hs, wo.heap.size, 0, k, _, _, _, rfl, Nat.le_trans hb zr, rn, by omega, by omega⟩, q1, q2, HB.out.trans (q3 _ H1.out.2.2)⟩
      case rest =>
        obtain ⟨d, hp, hd, hk16, hkp, hbx⟩ := hcut
        obtain ⟨lt2, ut, hlt2⟩ := HU.out.2 k hlt
        obtain ⟨ot, ct, et⟩ := ut.sl
        have v1 := later (HS.out.2.2.cell hlt) hbx
        have lv1 := cell_lt v1
        rw [et] at v1
        have p3 := hp.cell (i := k) (j := 3) hlt (by decide)
        have lp := hp.lt
        have f3 : wc.frozen? ⟨pr, k * 5 + 3, none⟩ = false := by
          obtain ⟨_, r, _⟩ := hp
          exact r.frozen _
        simp only [Nat.lt_irrefl, if_false, pv, show ¬ (3 : Nat) = 0 from by decide, show ¬ (3 : Nat) = 1 from by decide, show ¬ (3 : Nat) = 2 from by decide, if_true] at p3
        have HN := Lib.hid (And.intro hp (And.intro hd (And.intro hk16 (And.intro hkp (And.intro hbx et)))))
        clear hp hd hk16 hkp hbx et ut s0 ls p0 p1 f0 f1 v0 lv0 lpr
        go_wp2_with fail
        go_roundw
        case rel =>
          obtain ⟨cs, r, _⟩ := HN.out.1
          refine ⟨k + 1, (fun i => if i = k then d else D i), by omega, by go_num, ?_, fun i hi => ?_, HN.out.2.2.2.2.1.setCell H1.out.2.2 _⟩
          · obtain ⟨cs2, r2, s2, e2⟩ := HN.out.1.setT (Nat.le_refl _) hlt (.slice ot lt2 ct)
            refine ⟨cs2, r2, s2, fun i hi j hj => ?_⟩
            rw [e2 i hi j hj]
            congr 2
            · by_cases e : i = k
              · subst e; simp
              · by_cases e3 : i < k
                · have e4 : i < k + 1 := by omega
                  simp [e, e3, e4]
                · have e4 : ¬ i < k + 1 := by omega
                  simp [e, e3, e4]
            · by_cases e : i = k
              · subst e; simp [HN.out.2.2.2.2.2]
              · by_cases e3 : i < k
                · have e4 : i < k + 1 := by omega
                  simp [e, e3, e4]
                · have e4 : ¬ i < k + 1 := by omega
                  simp [e, e3, e4]
          · by_cases e : i = k
            · subst e
              simp only [if_true]
              exact HN.out.2.1.moved (K16.setO r _ _) (KP.setO r _ _) (Nat.le_refl _)
            · simp only [e, if_false]
              exact ((HP.out.2 i (by omega)).moved HN.out.2.2.1 HN.out.2.2.2.1 (Nat.le_refl _)).moved (K16.setO r _ _) (KP.setO r _ _) (Nat.le_refl _)
        case measure => simp [intOf]; omega
    · obtain rfl : k = n := by omega
      clear hlt
      go_wp2_with fail
      have bx : Below w.heap.size w (wr.alloc (.cells #[.nilIface, .int .i32 0, .string ⟨#[]⟩, .slice oh lh ch, .slice (some ⟨pr, 0, none⟩) k k, .int .i32 hl, .int .i32 0, .bool false, .bool false] 46)) := HB.out.alloc zr _
      have by' : Below wr.heap.size wr (wr.alloc (.cells #[.nilIface, .int .i32 0, .string ⟨#[]⟩, .slice oh lh ch, .slice (some ⟨pr, 0, none⟩) k k, .int .i32 hl, .int .i32 0, .bool false, .bool false] 46)) := (Below.refl _ _).alloc (Nat.le_refl _) _
      go_ret
      refine ⟨wr.heap.size, pr, D, rfl, RowAt.new _ _ _, ⟨?_, Nat.le_refl _, Nat.le_trans hb H1.out.2.2, fun i hi => (HP.out.2 i hi).moved (K16.of_below by') (KO.of_below by').kp (Nat.le_refl _), fun i hi => ?_⟩, bx⟩
      · obtain ⟨cs, r, s, e⟩ := HP.out.1
        exact ⟨cs, r.below by' r.lt, s, fun i hi j hj => by simpa [hi] using e i hi j hj⟩
      · obtain ⟨l, u, h⟩ := HU.out.2 i hi
        exact ⟨l, u.moved (K16.of_below bx), h⟩

end Go.Proofs.YtkncfhhiookgdacDoor
