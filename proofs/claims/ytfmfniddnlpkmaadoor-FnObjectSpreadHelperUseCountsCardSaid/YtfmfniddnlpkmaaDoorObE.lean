import Derived.Test.YtfmfniddnlpkmaaDoorKit
import Derived.Test.YtfmfniddnlpkmaaDoorObD
import Derived.Test.YtfmfniddnlpkmaaDoorViC
import Derived.Deep.RegionLaw
import Derived.Deep.RegionLawGrows
import Derived.Maps.AppendAt
namespace Go.Proofs.YtfmfniddnlpkmaaDoor
open Go.ChangeShapes Go.WideShapes Go.ChangeAt Go.RowKit
set_option linter.unusedVariables false
set_option maxRecDepth 100000
set_option maxHeartbeats 2000000

/-- The spreads so far; the runs that a spread has closed; is a run open? -/
def cnt (Bf : Nat → Bool) : Nat → Nat × Nat × Bool
  | 0 => (0, 0, false)
  | i + 1 => if Bf i then ((cnt Bf i).1 + 1, (cnt Bf i).2.1 + (if 0 < (cnt Bf i).1 ∧ (cnt Bf i).2.2 = true then 1 else 0), false) else ((cnt Bf i).1, (cnt Bf i).2.1, true)
def plus (b : Bool) : Nat := if b then 1 else 0

theorem cnt_le (Bf : Nat → Bool) : ∀ i, (cnt Bf i).1 ≤ i ∧ (cnt Bf i).2.1 ≤ i
  | 0 => ⟨Nat.le_refl _, Nat.le_refl _⟩
  | i + 1 => by
    have h := cnt_le Bf i
    unfold cnt
    split
    · refine ⟨by simp; omega, ?_⟩
      simp only
      split <;> omega
    · exact ⟨by simp only; omega, by simp only; omega⟩
theorem cnt_mono (Bf : Nat → Bool) (i : Nat) : (cnt Bf i).1 ≤ (cnt Bf (i + 1)).1 := by
  conv => rhs; unfold cnt
  split <;> simp
theorem cnt_pos (Bf : Nat → Bool) {i0 : Nat} (h : Bf i0 = true) : ∀ n, i0 < n → 0 < (cnt Bf n).1
  | 0, hn => by omega
  | n + 1, hn => by
    by_cases e : i0 = n
    · subst e
      unfold cnt
      rw [if_pos h]
      simp
    · exact Nat.lt_of_lt_of_le (cnt_pos Bf h n (by omega)) (cnt_mono Bf n)
/-- What the second loop keeps. -/
structure Lo (w wr : World) (p S mm : Nat) (un loc : Int) (rt f0 f1 len : Nat) (V d : Value) (l : Int) : Prop where
  os : OS wr p S mm un f0 f1
  fr : Fr (XS S) w wr
  r4 : RowAt wr w.heap.size #[.int .i32 loc] 36
  r6 : RowAt wr (w.heap.size + 1) #[.nilIface, .int .i32 0] 38
  rt : RowAt wr rt #[d, .int .i32 l] 38
  own : ∃ xs, wr.ownsRow w.heap.size 242 12 V len xs
section
variable {w wr W w3 : World} {p S mm rt f0 f1 g0 g1 len : Nat} {un loc l : Int} {V d : Value}
theorem own_below {B n size : Nat} {e : TypeId} {v : Value} {xs : List Value} (h : wr.ownsRow B e size v n xs) (hb : Below wr.heap.size wr W) : W.ownsRow B e size v n xs := own_kept h fun g hg => by
  obtain ⟨⟨es, e1⟩, _⟩ := own_row h hg
  exact hb.block g e1.lt
theorem Lo.below (h : Lo w wr p S mm un loc rt f0 f1 len V d l) (hb : Below wr.heap.size wr W) : Lo w W p S mm un loc rt f0 f1 len V d l := by
  obtain ⟨a, b, c, d', e, xs, f⟩ := h
  exact ⟨a.below hb, b.trans (Fr.of_below hb), c.below hb c.lt, d'.below hb d'.lt, e.below hb e.lt, xs, own_below f hb⟩
theorem Lo.set (h : Lo w wr p S mm un loc rt f0 f1 len V d l) (hrt : w.heap.size + 1 < rt) (d' : Value) (l' : Int) : Lo w ((wr.setCell ⟨rt, 0, none⟩ d').setCell ⟨rt, 1, none⟩ (.int .i32 l')) p S mm un loc rt f0 f1 len V d' l' := by
  obtain ⟨a, b, c, e4, e, xs, f⟩ := h
  refine ⟨(a.setRow e (by decide) (by decide)).setRow (e.set 0 _) (by decide) (by decide), (b.set (.inr (by omega))).set (.inr (by omega)), (c.set_other (by omega) _ _).set_other (by omega) _ _, (e4.set_other (by omega) _ _).set_other (by omega) _ _, (e.set 0 d').set 1 _, xs, own_kept f fun g hg => ?_⟩
  obtain ⟨⟨es, e1⟩, _⟩ := own_row f hg
  have hne := e1.ne e (by decide)
  rw [heap_set hne, heap_set hne]
theorem Lo.call (h : Lo w W p S mm un loc rt f0 f1 len V d l) (hS : S < w.heap.size) (hrt : w.heap.size + 1 < rt) (hos : OS w3 p S mm un g0 g1) (hfr : Fr (XS S) W w3) : Lo w w3 p S mm un loc rt g0 g1 len V d l := by
  obtain ⟨a, b, c, e4, e, xs, f⟩ := h
  refine ⟨hos, b.trans hfr, hfr.row c (fun e => by have : w.heap.size = S := e; omega), hfr.row e4 (fun e => by have : w.heap.size + 1 = S := e; omega), hfr.row e (fun e => by have : rt = S := e; omega), xs, own_kept f fun g hg => ?_⟩
  obtain ⟨⟨es, e1⟩, e2⟩ := own_row f hg
  exact hfr.block g e1.lt (fun e => by have : g = S := e; omega)
/-- An empty list, made anew. -/
theorem own_empty {b B : Nat} (h : RowAt wr b #[] 242) (hB : B ≤ b) : wr.ownsRow B 242 12 (.slice (some ⟨b, 0, none⟩) 0 0) 0 [] := ⟨rfl, .inr ⟨b, 0, #[], rfl, hB, h, Nat.le_refl _, Nat.zero_le _, rfl, rfl⟩⟩
end

theorem cell_all {u : World} {b i : Nat} (h : b < u.heap.size) (o : Obj) : (u.alloc o).cell? ⟨b, i, none⟩ = u.cell? ⟨b, i, none⟩ := by
  have := Below.heap_alloc u o b h
  unfold World.cell?
  simp only [this]
theorem own_slice' {w : World} {B n size : Nat} {e : TypeId} {v : Value} {xs : List Value} (h : w.ownsRow B e size v n xs) : ∃ x cap, v = .slice x n cap := by
  rcases h.2 with ⟨hv, hx⟩ | ⟨g, cap, cur, hv, _⟩
  · exact ⟨none, 0, by rw [hv, hx]⟩
  · exact ⟨_, cap, hv⟩
set_option maxHeartbeats 16000000 in
theorem lower32Y (p S mm EO PR n : Nat) (un loc : Int) (sl : Bool) (qf : Nat → Nat) (Bf : Nat → Bool) (w : World) (hn : n ≤ 65536) (h : OS w p S mm un 0 0) (ho : Obj32 w EO PR n sl qf Bf) (hun : bits BinOp.and IntKind.u64 un 35184372088832 ≠ 0) (i0 : Nat) (hi0 : i0 < n) (hB0 : Bf i0 = true) :
    Calls Tryd.prog 32 #[.pointer (some ⟨p, 0, none⟩), .agg #[.int .i32 loc], .pointer (some ⟨EO, 0, none⟩)] w (Low p S mm un loc (cnt Bf n).1 ((cnt Bf n).2.1 + plus (cnt Bf n).2.2) w) := by
  obtain ⟨j0, gi, gz0, gz1, gz2⟩ := info_parts info242
  obtain ⟨⟨cs, rp, pc⟩, ⟨ds, rs, _⟩, _⟩ := id h
  have c23 := rp.cellv pc.c23
  have zp := rp.lt
  have zp1 : p < w.heap.size + 1 := by omega
  have zp2 : p < w.heap.size + 1 + 1 := by omega
  obtain ⟨⟨es, re, e0, e2, e3⟩, ⟨qs, rq, hq⟩⟩ := id ho
  have ce0 := re.cellv e0
  have ze := re.lt
  have ze1 : EO < w.heap.size + 1 := by omega
  have H33 := Lib.hid (fun W => has33x un W)
  have HH := Lib.hid h
  have HOb := Lib.hid ho
  have HRQ := Lib.hid rq
  have HRE := Lib.hid re
  have HE0 := Lib.hid e0
  have HE2 := Lib.hid e2
  have HE3 := Lib.hid e3
  have HQ := Lib.hid hq
  have HRS := Lib.hid rs
  have hqq : (bits BinOp.and IntKind.u64 un 35184372088832 != 0) = true := by simpa using hun
  rw [hqq] at H33
  have hSE : EO ≠ S := re.ne rs (by decide)
  have hSQ : PR ≠ S := rq.ne rs (by decide)
  have zS := rs.lt
  have zQ := rq.lt
  clear rp pc rs re rq hq h ho hqq hun e0 e2 e3
  have hbw : Below w.heap.size w ((w.alloc (.cells #[.int .i32 loc] 36)).alloc (.cells #[.nilIface, .int .i32 0] 38)) := ((Below.refl _ _).alloc (Nat.le_refl _) _).alloc (by simp) _
  go_enter Tryd.func32, Tryd.ntmps32
  go_wp2_with (go_at_call 33; refine (H33.out _).mono ?_; rintro e wx ⟨rfl, rfl⟩)
  have R3 : RowAt ((w.alloc (.cells #[.int .i32 loc] 36)).alloc (.cells #[.nilIface, .int .i32 0] 38)) w.heap.size #[.int .i32 loc] 36 := (RowAt.new w _ _).alloc _
  have R4 : RowAt ((w.alloc (.cells #[.int .i32 loc] 36)).alloc (.cells #[.nilIface, .int .i32 0] 38)) (w.heap.size + 1) #[.nilIface, .int .i32 0] 38 := RowAt.newAt (by simp)
  generalize hW : (w.alloc (.cells #[.int .i32 loc] 36)).alloc (.cells #[.nilIface, .int .i32 0] 38) = W at hbw R3 R4 ⊢
  clear hW
  have HBW := Lib.hid hbw
  have HR3 := Lib.hid R3
  have HR4 := Lib.hid R4
  clear hbw R3 R4 zp1 zp2 ze1 c23 ce0
  go_loopw [7, 26] (fun v7 v26 wr => ∃ i : Nat, i ≤ n ∧ v26 = .int .i64 i ∧ v7 = .bool false ∧ Below W.heap.size W wr ∧ ∀ j, j < i → Bf j = false) (fun _ v26 _ => n - (intOf v26).toNat)
  case atStart => exact ⟨0, Nat.zero_le _, rfl, rfl, Below.refl _ _, fun j hj => by omega⟩
  case round =>
    obtain ⟨i, hi, rfl, rfl, hb, hno⟩ := hrel
    have HNO := Lib.hid hno
    clear hno
    by_cases hlt : i < n
    · have hb0 := HBW.out.trans (hb.mono HBW.out.size)
      have hq2 := HRQ.out.below hb0 HRQ.out.lt
      obtain ⟨b, hB⟩ : ∃ b, Bf i = b := ⟨_, rfl⟩
      cases b
      · have HBi := Lib.hid hB
        have p0 : wr.cell? ⟨PR, i * 12, none⟩ = some (.pointer none) := hq2.cellv (HQ.out i hlt 0 _ rfl)
        have p1 : wr.cell? ⟨PR, i * 12 + 1, none⟩ = some (.nilIface) := hq2.cellv (HQ.out i hlt 1 _ rfl)
        have p2 : wr.cell? ⟨PR, i * 12 + 2, none⟩ = some (.int .i32 0) := hq2.cellv (HQ.out i hlt 2 _ rfl)
        have p3 : wr.cell? ⟨PR, i * 12 + 3, none⟩ = some (.iface 234 (.pointer (some ⟨qf i, 0, none⟩))) := hq2.cellv (HQ.out i hlt 3 _ rfl)
        have p4 : wr.cell? ⟨PR, i * 12 + 4, none⟩ = some (.int .i32 0) := hq2.cellv (HQ.out i hlt 4 _ rfl)
        have p5 : wr.cell? ⟨PR, i * 12 + 5, none⟩ = some (.nilIface) := hq2.cellv (HQ.out i hlt 5 _ rfl)
        have p6 : wr.cell? ⟨PR, i * 12 + 6, none⟩ = some (.int .i32 0) := hq2.cellv (HQ.out i hlt 6 _ rfl)
        have p7 : wr.cell? ⟨PR, i * 12 + 7, none⟩ = some (.slice none 0 0) := hq2.cellv (HQ.out i hlt 7 _ rfl)
        have p8 : wr.cell? ⟨PR, i * 12 + 8, none⟩ = some (.int .i32 0) := hq2.cellv (HQ.out i hlt 8 _ rfl)
        have p9 : wr.cell? ⟨PR, i * 12 + 9, none⟩ = some (.int .i32 0) := hq2.cellv (HQ.out i hlt 9 _ rfl)
        have p10 : wr.cell? ⟨PR, i * 12 + 10, none⟩ = some (.int .u8 0) := hq2.cellv (HQ.out i hlt 10 _ (by rw [hB]; rfl))
        have p11 : wr.cell? ⟨PR, i * 12 + 11, none⟩ = some (.int .u8 0) := hq2.cellv (HQ.out i hlt 11 _ rfl)
        have HB := Lib.hid hb
        clear hq2 hb0 hb hB
        go_wp2_with fail
        go_roundw
        case rel =>
          refine ⟨i + 1, by omega, by go_num, rfl, HB.out.alloc HB.out.size _, fun j hj => ?_⟩
          by_cases e : j = i
          · subst e; exact HBi.out
          · exact HNO.out j (by omega)
        case measure => simp [intOf]; omega
      · have re2 := HRE.out.below hb0 HRE.out.lt
        have ce0 := re2.cellv HE0.out
        have ze := re2.lt
        have ze1 : EO < wr.heap.size + 1 := by omega
        have ze2 : EO < wr.heap.size + 1 + 1 := by omega
        have p0 : wr.cell? ⟨PR, i * 12, none⟩ = some (.pointer none) := hq2.cellv (HQ.out i hlt 0 _ rfl)
        have p1 : wr.cell? ⟨PR, i * 12 + 1, none⟩ = some (.nilIface) := hq2.cellv (HQ.out i hlt 1 _ rfl)
        have p2 : wr.cell? ⟨PR, i * 12 + 2, none⟩ = some (.int .i32 0) := hq2.cellv (HQ.out i hlt 2 _ rfl)
        have p3 : wr.cell? ⟨PR, i * 12 + 3, none⟩ = some (.iface 234 (.pointer (some ⟨qf i, 0, none⟩))) := hq2.cellv (HQ.out i hlt 3 _ rfl)
        have p4 : wr.cell? ⟨PR, i * 12 + 4, none⟩ = some (.int .i32 0) := hq2.cellv (HQ.out i hlt 4 _ rfl)
        have p5 : wr.cell? ⟨PR, i * 12 + 5, none⟩ = some (.nilIface) := hq2.cellv (HQ.out i hlt 5 _ rfl)
        have p6 : wr.cell? ⟨PR, i * 12 + 6, none⟩ = some (.int .i32 0) := hq2.cellv (HQ.out i hlt 6 _ rfl)
        have p7 : wr.cell? ⟨PR, i * 12 + 7, none⟩ = some (.slice none 0 0) := hq2.cellv (HQ.out i hlt 7 _ rfl)
        have p8 : wr.cell? ⟨PR, i * 12 + 8, none⟩ = some (.int .i32 0) := hq2.cellv (HQ.out i hlt 8 _ rfl)
        have p9 : wr.cell? ⟨PR, i * 12 + 9, none⟩ = some (.int .i32 0) := hq2.cellv (HQ.out i hlt 9 _ rfl)
        have p10 : wr.cell? ⟨PR, i * 12 + 10, none⟩ = some (.int .u8 5) := hq2.cellv (HQ.out i hlt 10 _ (by rw [hB]; rfl))
        have p11 : wr.cell? ⟨PR, i * 12 + 11, none⟩ = some (.int .u8 0) := hq2.cellv (HQ.out i hlt 11 _ rfl)
        have HB := Lib.hid hb
        have zr := hb0.size
        clear hq2 hb0 hb hB re2
        go_wp2_with fail
        have hb3 : Below w.heap.size w (((wr.alloc (.cells #[.pointer none, .nilIface, .int .i32 0, .iface 234 (.pointer (some ⟨qf i, 0, none⟩)), .int .i32 0, .nilIface, .int .i32 0, .slice none 0 0, .int .i32 0, .int .i32 0, .int .u8 5, .int .u8 0] 242)).alloc (.cells #[.nilIface, .int .i32 0] 38)).alloc (.cells #[] 242)) := ((((HBW.out.trans (HB.out.mono HBW.out.size)).alloc (by omega) _).alloc (by simp; omega) _).alloc (by simp; omega) _)
        have hl0 : Lo w (((wr.alloc (.cells #[.pointer none, .nilIface, .int .i32 0, .iface 234 (.pointer (some ⟨qf i, 0, none⟩)), .int .i32 0, .nilIface, .int .i32 0, .slice none 0 0, .int .i32 0, .int .i32 0, .int .u8 5, .int .u8 0] 242)).alloc (.cells #[.nilIface, .int .i32 0] 38)).alloc (.cells #[] 242)) p S mm un loc (wr.heap.size + 1) 0 0 0 (.slice (some ⟨wr.heap.size + 1 + 1, 0, none⟩) 0 0) .nilIface 0 := by
          have hq : Below W.heap.size W (((wr.alloc (.cells #[.pointer none, .nilIface, .int .i32 0, .iface 234 (.pointer (some ⟨qf i, 0, none⟩)), .int .i32 0, .nilIface, .int .i32 0, .slice none 0 0, .int .i32 0, .int .i32 0, .int .u8 5, .int .u8 0] 242)).alloc (.cells #[.nilIface, .int .i32 0] 38)).alloc (.cells #[] 242)) := (((HB.out.alloc HB.out.size _).alloc (by have := HB.out.size; simp; omega) _).alloc (by have := HB.out.size; simp; omega) _)
          exact ⟨HH.out.below hb3, Fr.of_below hb3, HR3.out.below hq HR3.out.lt, HR4.out.below hq HR4.out.lt, (RowAt.newAt (by simp)).alloc _, [], own_empty (RowAt.newAt (by simp)) (by omega)⟩
        have hrt : w.heap.size + 1 < wr.heap.size + 1 := by
          have h4 := HR4.out.lt
          have := HB.out.size
          omega
        have HL0 := Lib.hid hl0
        clear hl0 hb3 p0 p1 p2 p3 p4 p5 p6 p7 p8 p9 p10 p11 ce0 ze ze1 ze2 HB zr HNO hi hlt
        generalize hWW : ((wr.alloc (.cells #[.pointer none, .nilIface, .int .i32 0, .iface 234 (.pointer (some ⟨qf i, 0, none⟩)), .int .i32 0, .nilIface, .int .i32 0, .slice none 0 0, .int .i32 0, .int .i32 0, .int .u8 5, .int .u8 0] 242)).alloc (.cells #[.nilIface, .int .i32 0] 38)).alloc (.cells #[] 242) = Wz at HL0 ⊢
        generalize hrte : wr.heap.size + 1 = rt at hrt HL0 ⊢
        obtain ⟨wo, rfl⟩ : ∃ wo : World, wo = wr := ⟨_, rfl⟩
        clear hWW hrte
        go_loopw [11, 46] (fun v11 v46 wx => ∃ (i len : Nat) (V d : Value) (l : Int), i ≤ n ∧ v46 = .int .i64 i ∧ V = v11 ∧ Lo w wx p S mm un loc rt (cnt Bf i).1 (cnt Bf i).2.1 len V d l ∧ (0 < len ↔ (cnt Bf i).2.2 = true) ∧ len ≤ i ∧ ((cnt Bf i).1 = 0 ∧ d = .nilIface ∨ 0 < (cnt Bf i).1 ∧ l = loc ∧ ∃ x, d = .iface 264 (.pointer (some ⟨x, 0, none⟩)))) (fun _ v46 _ => n - (intOf v46).toNat)
        case atStart => exact ⟨0, 0, _, _, _, Nat.zero_le _, rfl, rfl, HL0.out, by simp [cnt], Nat.le_refl _, .inl ⟨rfl, rfl⟩⟩
        case round =>
          clear HL0
          obtain ⟨i, len, V, d, l, hi, rfl, rfl, hl, hpl, hlen, hd⟩ := hrel
          have HL := Lib.hid hl
          clear hl
          by_cases hlt : i < n
          · obtain ⟨b, hB⟩ : ∃ b, Bf i = b := ⟨_, rfl⟩
            have HBi := Lib.hid hB
            cases b
            · have hq2 := HL.out.fr.row HRQ.out hSQ
              have re2 := HL.out.fr.row HRE.out hSE
              have k0 := HL.out.r4.cellv (j := 0) (v := .int .i32 loc) rfl
              have r0 := HL.out.rt.cellv (j := 0) (v := d) rfl
              have r1 := HL.out.rt.cellv (j := 1) (v := .int .i32 l) rfl
              have fr := HL.out.rt.frozen
              have ce2 := re2.cellv HE2.out
              have ce3 := re2.cellv HE3.out
              have y4 := HL.out.r4.lt
              have yt := HL.out.rt.lt
              have ye := re2.lt
              have yq := hq2.lt
              have y41 : w.heap.size < wr.heap.size + 1 := by omega
              have yt1 : rt < wr.heap.size + 1 := by omega
              have ye1 : EO < wr.heap.size + 1 := by omega
              have y42 : w.heap.size < wr.heap.size + 1 + 1 := by omega
              have yt2 : rt < wr.heap.size + 1 + 1 := by omega
              have p0 : wr.cell? ⟨PR, i * 12, none⟩ = some (.pointer none) := hq2.cellv (HQ.out i hlt 0 _ rfl)
              have p1 : wr.cell? ⟨PR, i * 12 + 1, none⟩ = some (.nilIface) := hq2.cellv (HQ.out i hlt 1 _ rfl)
              have p2 : wr.cell? ⟨PR, i * 12 + 2, none⟩ = some (.int .i32 0) := hq2.cellv (HQ.out i hlt 2 _ rfl)
              have p3 : wr.cell? ⟨PR, i * 12 + 3, none⟩ = some (.iface 234 (.pointer (some ⟨qf i, 0, none⟩))) := hq2.cellv (HQ.out i hlt 3 _ rfl)
              have p4 : wr.cell? ⟨PR, i * 12 + 4, none⟩ = some (.int .i32 0) := hq2.cellv (HQ.out i hlt 4 _ rfl)
              have p5 : wr.cell? ⟨PR, i * 12 + 5, none⟩ = some (.nilIface) := hq2.cellv (HQ.out i hlt 5 _ rfl)
              have p6 : wr.cell? ⟨PR, i * 12 + 6, none⟩ = some (.int .i32 0) := hq2.cellv (HQ.out i hlt 6 _ rfl)
              have p7 : wr.cell? ⟨PR, i * 12 + 7, none⟩ = some (.slice none 0 0) := hq2.cellv (HQ.out i hlt 7 _ rfl)
              have p8 : wr.cell? ⟨PR, i * 12 + 8, none⟩ = some (.int .i32 0) := hq2.cellv (HQ.out i hlt 8 _ rfl)
              have p9 : wr.cell? ⟨PR, i * 12 + 9, none⟩ = some (.int .i32 0) := hq2.cellv (HQ.out i hlt 9 _ rfl)
              have p10 : wr.cell? ⟨PR, i * 12 + 10, none⟩ = some (.int .u8 0) := hq2.cellv (HQ.out i hlt 10 _ (by rw [hB]; rfl))
              have p11 : wr.cell? ⟨PR, i * 12 + 11, none⟩ = some (.int .u8 0) := hq2.cellv (HQ.out i hlt 11 _ rfl)
              clear hq2 re2
              obtain ⟨xs, hown⟩ := HL.out.own
              have HOW := Lib.hid hown
              clear hown hB
              go_wp2_with (at_builtin; refine wpList_append_own _ rfl _ _ 233 rfl w.heap.size 242 j0 _ 12 120 Tryd.underlying233 gi gz0 gz1 gz2 rfl (by decide) V len xs rfl ((HOW.out.alloc _).alloc _) ⟨wr.heap.size + 1, 0, none⟩ 1 1 [.pointer none, .nilIface, .int .i32 0, .iface 234 (.pointer (some ⟨qf i, 0, none⟩)), .int .i32 0, .nilIface, .int .i32 0, .slice none 0 0, .int .i32 0, .int .i32 0, .int .u8 0, .int .u8 0] rfl rfl (cell_list (t := 242) (RowAt.newAt (by simp))) (by simp [Value.oneCell']) (by unfold maxLen; omega) (by omega) (by have := HL.out.fr.size; simp; omega) ?_; intro V' w4 hown4 hg4 hnil4)
              have kp : ∀ b es t, RowAt wr b es t → t ≠ 242 → RowAt w4 b es t := fun b es t hr ht => by
                refine ((hg4.block b (by have := hr.lt; simp; omega) fun e => ?_).trans ((Below.heap_alloc _ _ _ (by have := hr.lt; simp; omega)).trans (Below.heap_alloc _ _ _ hr.lt))).trans hr
                obtain ⟨⟨es', h'⟩, _⟩ := own_row HOW.out e.symm
                exact hr.ne h' ht rfl
              have hl4 : Lo w w4 p S mm un loc rt (cnt Bf i).1 (cnt Bf i).2.1 (len + 1) V' d l := by
                obtain ⟨a, b, c, e4, e, _⟩ := HL.out
                refine ⟨a.kept fun j hj => ?_, ?_, kp _ _ _ c (by decide), kp _ _ _ e4 (by decide), kp _ _ _ e (by decide), _, hown4⟩
                · have hj' : j < wr.heap.size ∧ some j ≠ V.ownBlock := by
                    obtain ⟨⟨q0, q1, q2⟩, ⟨q3, q4, _⟩, ⟨F, nn, q5, _⟩⟩ := a
                    rcases hj with rfl | rfl | rfl
                    · exact ⟨q1.lt, fun e => by obtain ⟨⟨es', h'⟩, _⟩ := own_row HOW.out e.symm; exact q1.ne h' (by decide) rfl⟩
                    · exact ⟨q4.lt, fun e => by obtain ⟨⟨es', h'⟩, _⟩ := own_row HOW.out e.symm; exact q4.ne h' (by decide) rfl⟩
                    · refine ⟨q5.lt, fun e => ?_⟩
                      obtain ⟨⟨es', h'⟩, _⟩ := own_row HOW.out e.symm
                      obtain ⟨es2, c2, hm2, _⟩ := q5
                      unfold RowAt at h'
                      rw [hm2] at h'
                      cases h'
                  exact (hg4.block j (by simp; omega) hj'.2).trans ((Below.heap_alloc _ _ _ (by simp; omega)).trans (Below.heap_alloc _ _ _ hj'.1))
                · have hs := b.size
                  refine ⟨hg4.os.trans b.os, hg4.tape.trans b.tape, hg4.output.trans b.output, by have := hg4.size; simp at this; omega, fun j hj hx => ?_⟩
                  exact ((hg4.block j (by simp; omega) (fun e => by have := (own_row HOW.out e.symm).2; omega)).trans ((Below.heap_alloc _ _ _ (by simp; omega)).trans (Below.heap_alloc _ _ _ (by omega)))).trans (b.block j hj hx)
              have HL4 := Lib.hid hl4
              have e1 : cnt Bf (i + 1) = ((cnt Bf i).1, (cnt Bf i).2.1, true) := by
                conv => lhs; unfold cnt
                rw [HBi.out]
                rfl
              have HE := Lib.hid e1
              clear kp hl4 hown4 hg4 hnil4 e1 HOW
              go_roundw
              case rel =>
                refine ⟨i + 1, len + 1, _, d, l, by omega, by go_num, rfl, ?_, ?_, by omega, ?_⟩
                · rw [HE.out]; exact HL4.out
                · rw [HE.out]; simp
                · rw [HE.out]; exact hd
              case measure => simp [intOf]; omega
            · by_cases hv0 : (cnt Bf i).1 = 0
              · obtain rfl : d = .nilIface := by
                  rcases hd with ⟨_, h⟩ | ⟨h, _⟩
                  · exact h
                  · omega
                clear hd hpl
                have hq2 := HL.out.fr.row HRQ.out hSQ
                have re2 := HL.out.fr.row HRE.out hSE
                have k0 := HL.out.r4.cellv (j := 0) (v := .int .i32 loc) rfl
                have r0 := HL.out.rt.cellv (j := 0) (v := .nilIface) rfl
                have r1 := HL.out.rt.cellv (j := 1) (v := .int .i32 l) rfl
                have fr := HL.out.rt.frozen
                have ce2 := re2.cellv HE2.out
                have ce3 := re2.cellv HE3.out
                have y4 := HL.out.r4.lt
                have yt := HL.out.rt.lt
                have ye := re2.lt
                have yq := hq2.lt
                have y41 : w.heap.size < wr.heap.size + 1 := by omega
                have yt1 : rt < wr.heap.size + 1 := by omega
                have ye1 : EO < wr.heap.size + 1 := by omega
                have y42 : w.heap.size < wr.heap.size + 1 + 1 := by omega
                have yt2 : rt < wr.heap.size + 1 + 1 := by omega
                have p0 : wr.cell? ⟨PR, i * 12, none⟩ = some (.pointer none) := hq2.cellv (HQ.out i hlt 0 _ rfl)
                have p1 : wr.cell? ⟨PR, i * 12 + 1, none⟩ = some (.nilIface) := hq2.cellv (HQ.out i hlt 1 _ rfl)
                have p2 : wr.cell? ⟨PR, i * 12 + 2, none⟩ = some (.int .i32 0) := hq2.cellv (HQ.out i hlt 2 _ rfl)
                have p3 : wr.cell? ⟨PR, i * 12 + 3, none⟩ = some (.iface 234 (.pointer (some ⟨qf i, 0, none⟩))) := hq2.cellv (HQ.out i hlt 3 _ rfl)
                have p4 : wr.cell? ⟨PR, i * 12 + 4, none⟩ = some (.int .i32 0) := hq2.cellv (HQ.out i hlt 4 _ rfl)
                have p5 : wr.cell? ⟨PR, i * 12 + 5, none⟩ = some (.nilIface) := hq2.cellv (HQ.out i hlt 5 _ rfl)
                have p6 : wr.cell? ⟨PR, i * 12 + 6, none⟩ = some (.int .i32 0) := hq2.cellv (HQ.out i hlt 6 _ rfl)
                have p7 : wr.cell? ⟨PR, i * 12 + 7, none⟩ = some (.slice none 0 0) := hq2.cellv (HQ.out i hlt 7 _ rfl)
                have p8 : wr.cell? ⟨PR, i * 12 + 8, none⟩ = some (.int .i32 0) := hq2.cellv (HQ.out i hlt 8 _ rfl)
                have p9 : wr.cell? ⟨PR, i * 12 + 9, none⟩ = some (.int .i32 0) := hq2.cellv (HQ.out i hlt 9 _ rfl)
                have p10 : wr.cell? ⟨PR, i * 12 + 10, none⟩ = some (.int .u8 5) := hq2.cellv (HQ.out i hlt 10 _ (by rw [hB]; rfl))
                have p11 : wr.cell? ⟨PR, i * 12 + 11, none⟩ = some (.int .u8 0) := hq2.cellv (HQ.out i hlt 11 _ rfl)
                clear hq2 re2
                obtain ⟨xs, hown⟩ := HL.out.own
                obtain ⟨vx, vcap, rfl⟩ := own_slice' hown
                clear hown hB
                have e1 : cnt Bf (i + 1) = ((cnt Bf i).1 + 1, (cnt Bf i).2.1, false) := by
                  conv => lhs; unfold cnt
                  rw [HBi.out, hv0]
                  simp
                by_cases hl0 : len = 0
                · subst hl0
                  go_wp2_with fail
                  have hb1 : Below wr.heap.size wr (wr.alloc (.cells #[.pointer none, .nilIface, .int .i32 0, .iface 234 (.pointer (some ⟨qf i, 0, none⟩)), .int .i32 0, .nilIface, .int .i32 0, .slice none 0 0, .int .i32 0, .int .i32 0, .int .u8 5, .int .u8 0] 242)) := (Below.refl _ _).alloc (Nat.le_refl _) _
                  have hl1 := HL.out.below hb1
                  have r13 : RowAt (wr.alloc (.cells #[.pointer none, .nilIface, .int .i32 0, .iface 234 (.pointer (some ⟨qf i, 0, none⟩)), .int .i32 0, .nilIface, .int .i32 0, .slice none 0 0, .int .i32 0, .int .i32 0, .int .u8 5, .int .u8 0] 242)) wr.heap.size #[.pointer none, .nilIface, .int .i32 0, .iface 234 (.pointer (some ⟨qf i, 0, none⟩)), .int .i32 0, .nilIface, .int .i32 0, .slice none 0 0, .int .i32 0, .int .i32 0, .int .u8 5, .int .u8 0] 242 := RowAt.new wr _ _
                  have nE : EO ≠ rt := (HL.out.fr.row HRE.out hSE).ne HL.out.rt (by decide)
                  have g3 : (wr.alloc (.cells #[.pointer none, .nilIface, .int .i32 0, .iface 234 (.pointer (some ⟨qf i, 0, none⟩)), .int .i32 0, .nilIface, .int .i32 0, .slice none 0 0, .int .i32 0, .int .i32 0, .int .u8 5, .int .u8 0] 242)).cell? ⟨EO, 3, none⟩ = some (.bool sl) := ((HL.out.fr.row HRE.out hSE).alloc _).cellv HE3.out
                  clear p0 p1 p2 p3 p4 p5 p6 p7 p8 p9 p10 p11 r0 r1 fr k0 ce2 ce3 y4 yt ye yq y41 yt1 ye1 y42 yt2 hb1 HL
                  generalize hW1 : wr.alloc (.cells #[.pointer none, .nilIface, .int .i32 0, .iface 234 (.pointer (some ⟨qf i, 0, none⟩)), .int .i32 0, .nilIface, .int .i32 0, .slice none 0 0, .int .i32 0, .int .i32 0, .int .u8 5, .int .u8 0] 242) = W1 at hl1 r13 g3 ⊢
                  have z1 : wr.heap.size + 1 = W1.heap.size := by rw [← hW1]; simp
                  clear hW1
                  have n4 : w.heap.size ≠ rt := by omega
                  have k0 : W1.cell? ⟨w.heap.size, 0, none⟩ = some (.int .i32 loc) := hl1.r4.cellv rfl
                  have fr := hl1.rt.frozen
                  have r0 := hl1.rt.cellv (j := 0) (v := .nilIface) rfl
                  have r1 := hl1.rt.cellv (j := 1) (v := .int .i32 l) rfl
                  have y4 := hl1.r4.lt
                  have yt := hl1.rt.lt
                  have ye : EO < W1.heap.size := cell_lt g3
                  have HL1 := Lib.hid hl1
                  have HR13 := Lib.hid r13
                  clear hl1 r13
                  refine wp_region_held_drew (S := fun w' => w'.cell? ⟨w.heap.size, 0, none⟩ = some (.int .i32 loc) ∧ w'.cell? ⟨EO, 3, none⟩ = some (.bool sl)) (by kernel_rfl) (by go_keep) (fun hHeld => ?_)
                  refine wpAnyH_take (i := 0) (v := ?_) rfl (by kernel_rfl) (by kernel_rfl) (by kernel_rfl) (fun _ _ _ h => h) (Or.inl ⟨by rfl, ?_⟩) (by assumption) ?_
                  rotate_left
                  · (intro w' hSw; (try dsimp only at hSw); go_simp; with_reducible rfl)
                  try simp only [List.getElem_toArray, List.getElem_cons_zero, List.getElem_cons_succ, Act.put, List.setIfInBounds_toArray, List.set_cons_zero, List.set_cons_succ]
                  refine wpAnyH_take (i := 1) (v := ?_) rfl (by kernel_rfl) (by kernel_rfl) (by kernel_rfl) (fun _ _ _ h => h) (Or.inl ⟨by rfl, ?_⟩) (by assumption) ?_
                  rotate_left
                  · (intro w' hSw; (try dsimp only at hSw); go_simp; with_reducible rfl)
                  try simp only [List.getElem_toArray, List.getElem_cons_zero, List.getElem_cons_succ, Act.put, List.setIfInBounds_toArray, List.set_cons_zero, List.set_cons_succ]
                  refine wpAnyH_take (i := 2) (v := ?_) rfl (by kernel_rfl) (by kernel_rfl) (by kernel_rfl) (fun _ _ _ h => h) (Or.inl ⟨by rfl, ?_⟩) (by assumption) ?_
                  rotate_left
                  · (intro w' hSw; (try dsimp only at hSw); go_simp; with_reducible rfl)
                  try simp only [List.getElem_toArray, List.getElem_cons_zero, List.getElem_cons_succ, Act.put, List.setIfInBounds_toArray, List.set_cons_zero, List.set_cons_succ]
                  refine wpAnyH_take (i := 3) (v := ?_) rfl (by kernel_rfl) (by kernel_rfl) (by kernel_rfl) (fun _ _ _ h => h) (Or.inl ⟨by rfl, ?_⟩) (by assumption) ?_
                  rotate_left
                  · (intro w' hSw; (try dsimp only at hSw); go_simp; with_reducible rfl)
                  try simp only [List.getElem_toArray, List.getElem_cons_zero, List.getElem_cons_succ, Act.put, List.setIfInBounds_toArray, List.set_cons_zero, List.set_cons_succ]
                  refine wpAnyH_take (i := 4) (v := ?_) rfl (by kernel_rfl) (by kernel_rfl) (by kernel_rfl) (fun _ _ _ h => h) (Or.inl ⟨by rfl, ?_⟩) (by assumption) ?_
                  rotate_left
                  · (intro w' hSw; (try dsimp only at hSw); go_simp; with_reducible rfl)
                  try simp only [List.getElem_toArray, List.getElem_cons_zero, List.getElem_cons_succ, Act.put, List.setIfInBounds_toArray, List.set_cons_zero, List.set_cons_succ]
                  refine wpAnyH_take (i := 5) (v := ?_) rfl (by kernel_rfl) (by kernel_rfl) (by kernel_rfl) (fun _ _ _ h => h) (Or.inl ⟨by rfl, ?_⟩) (by assumption) ?_
                  rotate_left
                  · (intro w' hSw; (try dsimp only at hSw); go_simp; with_reducible rfl)
                  try simp only [List.getElem_toArray, List.getElem_cons_zero, List.getElem_cons_succ, Act.put, List.setIfInBounds_toArray, List.set_cons_zero, List.set_cons_succ]
                  refine wpAnyH_take (i := 6) (v := ?_) rfl (by kernel_rfl) (by kernel_rfl) (by kernel_rfl) (fun _ _ _ h => h) (Or.inl ⟨by rfl, ?_⟩) (by assumption) ?_
                  rotate_left
                  · (intro w' hSw; (try dsimp only at hSw); go_simp; with_reducible rfl)
                  try simp only [List.getElem_toArray, List.getElem_cons_zero, List.getElem_cons_succ, Act.put, List.setIfInBounds_toArray, List.set_cons_zero, List.set_cons_succ]
                  refine wpAnyH_ready (rs := [7]) (by kernel_rfl) (by simp) ?_
                  refine AllReadyH.cons rfl (fun K hK => ?_) AllReadyH.nil
                  simp only [List.getElem_toArray, List.getElem_cons_zero, List.getElem_cons_succ]
                  go_simp
                  refine hK.out _ _ (by go_keep) (fun hHeld => ?_)
                  clear hK K
                  try simp only [List.getElem_toArray, List.getElem_cons_zero, List.getElem_cons_succ, Act.put, List.setIfInBounds_toArray, List.set_cons_zero, List.set_cons_succ]
                  refine wpAnyH_take (i := 8) (v := ?_) rfl (by kernel_rfl) (by kernel_rfl) (by kernel_rfl) (fun _ _ _ h => h) (Or.inl ⟨by rfl, ?_⟩) (by assumption) ?_
                  rotate_left
                  · (intro w' hSw; (try dsimp only at hSw); go_simp; with_reducible rfl)
                  try simp only [List.getElem_toArray, List.getElem_cons_zero, List.getElem_cons_succ, Act.put, List.setIfInBounds_toArray, List.set_cons_zero, List.set_cons_succ]
                  refine wpAnyH_take (i := 9) (v := ?_) rfl (by kernel_rfl) (by kernel_rfl) (by kernel_rfl) (fun _ _ _ h => h) (Or.inl ⟨by rfl, ?_⟩) (by assumption) ?_
                  rotate_left
                  · (intro w' hSw; (try dsimp only at hSw); go_simp; with_reducible rfl)
                  try simp only [List.getElem_toArray, List.getElem_cons_zero, List.getElem_cons_succ, Act.put, List.setIfInBounds_toArray, List.set_cons_zero, List.set_cons_succ]
                  refine wpAnyH_ready (rs := [10]) (by kernel_rfl) (by simp) ?_
                  refine AllReadyH.cons rfl (fun K hK => ?_) AllReadyH.nil
                  simp only [List.getElem_toArray, List.getElem_cons_zero, List.getElem_cons_succ]
                  go_simp
                  refine hK.out _ _ ⟨(cell_all (by simpa using y4) _).trans ((store_far n4 _ _).trans ((store_far n4 _ _).trans k0)), (cell_all (by simpa using ye) _).trans ((store_far nE _ _).trans ((store_far nE _ _).trans g3))⟩ (fun hHeld => ?_)
                  clear hK K
                  try simp only [List.getElem_toArray, List.getElem_cons_zero, List.getElem_cons_succ, Act.put, List.setIfInBounds_toArray, List.set_cons_zero, List.set_cons_succ]
                  refine wpAnyH_done (by kernel_rfl) ?_ _
                  have n13 : wr.heap.size ≠ rt := HR13.out.ne HL1.out.rt (by decide)
                  have hl4 : Lo w ((((W1.setCell ⟨rt, 0, none⟩ (.iface 63 (.pointer (some ⟨W1.heap.size, 0, none⟩)))).setCell ⟨rt, 1, none⟩ (.int .i32 loc)).alloc (.cells #[.slice vx 0 vcap, .int .i32 0, .int .i32 0, .bool sl, .bool false] 244)).drew) p S mm un loc rt (cnt Bf i).1 (cnt Bf i).2.1 0 (.slice vx 0 vcap) (.iface 63 (.pointer (some ⟨W1.heap.size, 0, none⟩))) loc := (HL1.out.set hrt _ _).below ((Below.refl _ _).alloc (Nat.le_refl _) _).drew
                  have r13 : RowAt ((((W1.setCell ⟨rt, 0, none⟩ (.iface 63 (.pointer (some ⟨W1.heap.size, 0, none⟩)))).setCell ⟨rt, 1, none⟩ (.int .i32 loc)).alloc (.cells #[.slice vx 0 vcap, .int .i32 0, .int .i32 0, .bool sl, .bool false] 244)).drew) wr.heap.size #[.pointer none, .nilIface, .int .i32 0, .iface 234 (.pointer (some ⟨qf i, 0, none⟩)), .int .i32 0, .nilIface, .int .i32 0, .slice none 0 0, .int .i32 0, .int .i32 0, .int .u8 5, .int .u8 0] 242 := ((HR13.out.set_other n13 _ _).set_other n13 _ _).alloc _
                  clear k0 fr r0 r1 g3 y4 yt ye
                  have HL4 := Lib.hid hl4
                  have R13 := Lib.hid r13
                  clear hl4 r13 hHeld
                  generalize hW4 : (((W1.setCell ⟨rt, 0, none⟩ (.iface 63 (.pointer (some ⟨W1.heap.size, 0, none⟩)))).setCell ⟨rt, 1, none⟩ (.int .i32 loc)).alloc (.cells #[.slice vx 0 vcap, .int .i32 0, .int .i32 0, .bool sl, .bool false] 244)).drew = W4 at HL4 R13 ⊢
                  have zb : w.heap.size ≤ W4.heap.size := HL4.out.fr.size
                  clear hW4 HL1 HR13
                  have k4 := HL4.out.r4.cellv (j := 0) (v := .int .i32 loc) rfl
                  have t0 := HL4.out.rt.cellv (j := 0) (v := .iface 63 (.pointer (some ⟨W1.heap.size, 0, none⟩))) rfl
                  have t1 := HL4.out.rt.cellv (j := 1) (v := .int .i32 loc) rfl
                  have ft := HL4.out.rt.frozen
                  have u3 := R13.out.cellv (j := 3) (v := .iface 234 (.pointer (some ⟨qf i, 0, none⟩))) rfl
                  have u4 := R13.out.cellv (j := 4) (v := .int .i32 0) rfl
                  have j4 := HL4.out.r4.lt
                  have jt := HL4.out.rt.lt
                  have j13 := R13.out.lt
                  have j41 : w.heap.size < W4.heap.size + 1 := by omega
                  have jt1 : rt < W4.heap.size + 1 := by omega
                  have j131 : wr.heap.size < W4.heap.size + 1 := by omega
                  have HE := Lib.hid e1
                  clear e1
                  go_wp2_with fail
                  refine (call38 p S mm un loc (cnt Bf i).1 ((cnt Bf i).2.1) 0 (cnt Bf i).1 kV _ 2 2 _ (.inl ⟨rfl, rfl, rfl⟩) (by have := cnt_le Bf i; omega) (HL4.out.os.below (by go_grown))).mono ?_
                  rintro e w5 ⟨⟨x5, rfl⟩, hos5, hfr5⟩
                  have hl5' : Lo w w5 p S mm un loc rt ((cnt Bf i).1 + 1) ((cnt Bf i).2.1) 0 (.slice vx 0 vcap) (.iface 63 (.pointer (some ⟨W1.heap.size, 0, none⟩))) loc := by
                    refine Lo.call (HL4.out.below ?_) zS hrt hos5 hfr5
                    go_grown
                  have hemp : RowAt w5 W4.heap.size #[] 242 := hfr5.row ((RowAt.new W4 _ _).alloc _) (fun e => by have : W4.heap.size = S := e; omega)
                  have hl5 : Lo w w5 p S mm un loc rt ((cnt Bf i).1 + 1) ((cnt Bf i).2.1) 0 (.slice (some ⟨W4.heap.size, 0, none⟩) 0 0) (.iface 63 (.pointer (some ⟨W1.heap.size, 0, none⟩))) loc :=
                    ⟨hl5'.os, hl5'.fr, hl5'.r4, hl5'.r6, hl5'.rt, [], own_empty hemp (by omega)⟩
                  clear hl5' hemp
                  have HL6 := Lib.hid (hl5.set hrt (.iface 264 (.pointer (some ⟨x5, 0, none⟩))) loc)
                  have s0 := hl5.rt.cellv (j := 0) (v := .iface 63 (.pointer (some ⟨W1.heap.size, 0, none⟩))) rfl
                  have s1 := hl5.rt.cellv (j := 1) (v := .int .i32 loc) rfl
                  have fs := hl5.rt.frozen
                  have ys := hl5.rt.lt
                  clear hl5 hos5 hfr5
                  go_wp2_with fail
                  go_roundw
                  case rel =>
                    refine ⟨i + 1, 0, .slice (some ⟨W4.heap.size, 0, none⟩) 0 0, .iface 264 (.pointer (some ⟨x5, 0, none⟩)), loc, by omega, by go_num, rfl, ?_, ?_, by omega, ?_⟩
                    · rw [HE.out]; exact HL6.out
                    · rw [HE.out]; simp
                    · rw [HE.out]; exact .inr ⟨by simp, rfl, x5, rfl⟩
                  case measure => simp [intOf]; omega
                · have hlp : 0 < len := by omega
                  go_wp2_with fail
                  have hb1 : Below wr.heap.size wr (wr.alloc (.cells #[.pointer none, .nilIface, .int .i32 0, .iface 234 (.pointer (some ⟨qf i, 0, none⟩)), .int .i32 0, .nilIface, .int .i32 0, .slice none 0 0, .int .i32 0, .int .i32 0, .int .u8 5, .int .u8 0] 242)) := (Below.refl _ _).alloc (Nat.le_refl _) _
                  have hl1 := HL.out.below hb1
                  have r13 : RowAt (wr.alloc (.cells #[.pointer none, .nilIface, .int .i32 0, .iface 234 (.pointer (some ⟨qf i, 0, none⟩)), .int .i32 0, .nilIface, .int .i32 0, .slice none 0 0, .int .i32 0, .int .i32 0, .int .u8 5, .int .u8 0] 242)) wr.heap.size #[.pointer none, .nilIface, .int .i32 0, .iface 234 (.pointer (some ⟨qf i, 0, none⟩)), .int .i32 0, .nilIface, .int .i32 0, .slice none 0 0, .int .i32 0, .int .i32 0, .int .u8 5, .int .u8 0] 242 := RowAt.new wr _ _
                  have nE : EO ≠ rt := (HL.out.fr.row HRE.out hSE).ne HL.out.rt (by decide)
                  have g3 : (wr.alloc (.cells #[.pointer none, .nilIface, .int .i32 0, .iface 234 (.pointer (some ⟨qf i, 0, none⟩)), .int .i32 0, .nilIface, .int .i32 0, .slice none 0 0, .int .i32 0, .int .i32 0, .int .u8 5, .int .u8 0] 242)).cell? ⟨EO, 3, none⟩ = some (.bool sl) := ((HL.out.fr.row HRE.out hSE).alloc _).cellv HE3.out
                  clear p0 p1 p2 p3 p4 p5 p6 p7 p8 p9 p10 p11 r0 r1 fr k0 ce2 ce3 y4 yt ye yq y41 yt1 ye1 y42 yt2 hb1 HL
                  generalize hW1 : wr.alloc (.cells #[.pointer none, .nilIface, .int .i32 0, .iface 234 (.pointer (some ⟨qf i, 0, none⟩)), .int .i32 0, .nilIface, .int .i32 0, .slice none 0 0, .int .i32 0, .int .i32 0, .int .u8 5, .int .u8 0] 242) = W1 at hl1 r13 g3 ⊢
                  have z1 : wr.heap.size + 1 = W1.heap.size := by rw [← hW1]; simp
                  clear hW1
                  have n4 : w.heap.size ≠ rt := by omega
                  have k0 : W1.cell? ⟨w.heap.size, 0, none⟩ = some (.int .i32 loc) := hl1.r4.cellv rfl
                  have fr := hl1.rt.frozen
                  have r0 := hl1.rt.cellv (j := 0) (v := .nilIface) rfl
                  have r1 := hl1.rt.cellv (j := 1) (v := .int .i32 l) rfl
                  have y4 := hl1.r4.lt
                  have yt := hl1.rt.lt
                  have ye : EO < W1.heap.size := cell_lt g3
                  have HL1 := Lib.hid hl1
                  have HR13 := Lib.hid r13
                  clear hl1 r13
                  refine wp_region_held_drew (S := fun w' => w'.cell? ⟨w.heap.size, 0, none⟩ = some (.int .i32 loc) ∧ w'.cell? ⟨EO, 3, none⟩ = some (.bool sl)) (by kernel_rfl) (by go_keep) (fun hHeld => ?_)
                  refine wpAnyH_take (i := 0) (v := ?_) rfl (by kernel_rfl) (by kernel_rfl) (by kernel_rfl) (fun _ _ _ h => h) (Or.inl ⟨by rfl, ?_⟩) (by assumption) ?_
                  rotate_left
                  · (intro w' hSw; (try dsimp only at hSw); go_simp; with_reducible rfl)
                  try simp only [List.getElem_toArray, List.getElem_cons_zero, List.getElem_cons_succ, Act.put, List.setIfInBounds_toArray, List.set_cons_zero, List.set_cons_succ]
                  refine wpAnyH_take (i := 1) (v := ?_) rfl (by kernel_rfl) (by kernel_rfl) (by kernel_rfl) (fun _ _ _ h => h) (Or.inl ⟨by rfl, ?_⟩) (by assumption) ?_
                  rotate_left
                  · (intro w' hSw; (try dsimp only at hSw); go_simp; with_reducible rfl)
                  try simp only [List.getElem_toArray, List.getElem_cons_zero, List.getElem_cons_succ, Act.put, List.setIfInBounds_toArray, List.set_cons_zero, List.set_cons_succ]
                  refine wpAnyH_take (i := 2) (v := ?_) rfl (by kernel_rfl) (by kernel_rfl) (by kernel_rfl) (fun _ _ _ h => h) (Or.inl ⟨by rfl, ?_⟩) (by assumption) ?_
                  rotate_left
                  · (intro w' hSw; (try dsimp only at hSw); go_simp; with_reducible rfl)
                  try simp only [List.getElem_toArray, List.getElem_cons_zero, List.getElem_cons_succ, Act.put, List.setIfInBounds_toArray, List.set_cons_zero, List.set_cons_succ]
                  refine wpAnyH_take (i := 3) (v := ?_) rfl (by kernel_rfl) (by kernel_rfl) (by kernel_rfl) (fun _ _ _ h => h) (Or.inl ⟨by rfl, ?_⟩) (by assumption) ?_
                  rotate_left
                  · (intro w' hSw; (try dsimp only at hSw); go_simp; with_reducible rfl)
                  try simp only [List.getElem_toArray, List.getElem_cons_zero, List.getElem_cons_succ, Act.put, List.setIfInBounds_toArray, List.set_cons_zero, List.set_cons_succ]
                  refine wpAnyH_take (i := 4) (v := ?_) rfl (by kernel_rfl) (by kernel_rfl) (by kernel_rfl) (fun _ _ _ h => h) (Or.inl ⟨by rfl, ?_⟩) (by assumption) ?_
                  rotate_left
                  · (intro w' hSw; (try dsimp only at hSw); go_simp; with_reducible rfl)
                  try simp only [List.getElem_toArray, List.getElem_cons_zero, List.getElem_cons_succ, Act.put, List.setIfInBounds_toArray, List.set_cons_zero, List.set_cons_succ]
                  refine wpAnyH_take (i := 5) (v := ?_) rfl (by kernel_rfl) (by kernel_rfl) (by kernel_rfl) (fun _ _ _ h => h) (Or.inl ⟨by rfl, ?_⟩) (by assumption) ?_
                  rotate_left
                  · (intro w' hSw; (try dsimp only at hSw); go_simp; with_reducible rfl)
                  try simp only [List.getElem_toArray, List.getElem_cons_zero, List.getElem_cons_succ, Act.put, List.setIfInBounds_toArray, List.set_cons_zero, List.set_cons_succ]
                  refine wpAnyH_take (i := 6) (v := ?_) rfl (by kernel_rfl) (by kernel_rfl) (by kernel_rfl) (fun _ _ _ h => h) (Or.inl ⟨by rfl, ?_⟩) (by assumption) ?_
                  rotate_left
                  · (intro w' hSw; (try dsimp only at hSw); go_simp; with_reducible rfl)
                  try simp only [List.getElem_toArray, List.getElem_cons_zero, List.getElem_cons_succ, Act.put, List.setIfInBounds_toArray, List.set_cons_zero, List.set_cons_succ]
                  refine wpAnyH_ready (rs := [7]) (by kernel_rfl) (by simp) ?_
                  refine AllReadyH.cons rfl (fun K hK => ?_) AllReadyH.nil
                  simp only [List.getElem_toArray, List.getElem_cons_zero, List.getElem_cons_succ]
                  go_simp
                  refine hK.out _ _ (by go_keep) (fun hHeld => ?_)
                  clear hK K
                  try simp only [List.getElem_toArray, List.getElem_cons_zero, List.getElem_cons_succ, Act.put, List.setIfInBounds_toArray, List.set_cons_zero, List.set_cons_succ]
                  refine wpAnyH_take (i := 8) (v := ?_) rfl (by kernel_rfl) (by kernel_rfl) (by kernel_rfl) (fun _ _ _ h => h) (Or.inl ⟨by rfl, ?_⟩) (by assumption) ?_
                  rotate_left
                  · (intro w' hSw; (try dsimp only at hSw); go_simp; with_reducible rfl)
                  try simp only [List.getElem_toArray, List.getElem_cons_zero, List.getElem_cons_succ, Act.put, List.setIfInBounds_toArray, List.set_cons_zero, List.set_cons_succ]
                  refine wpAnyH_take (i := 9) (v := ?_) rfl (by kernel_rfl) (by kernel_rfl) (by kernel_rfl) (fun _ _ _ h => h) (Or.inl ⟨by rfl, ?_⟩) (by assumption) ?_
                  rotate_left
                  · (intro w' hSw; (try dsimp only at hSw); go_simp; with_reducible rfl)
                  try simp only [List.getElem_toArray, List.getElem_cons_zero, List.getElem_cons_succ, Act.put, List.setIfInBounds_toArray, List.set_cons_zero, List.set_cons_succ]
                  refine wpAnyH_ready (rs := [10]) (by kernel_rfl) (by simp) ?_
                  refine AllReadyH.cons rfl (fun K hK => ?_) AllReadyH.nil
                  simp only [List.getElem_toArray, List.getElem_cons_zero, List.getElem_cons_succ]
                  go_simp
                  refine hK.out _ _ ⟨(cell_all (by simpa using y4) _).trans ((store_far n4 _ _).trans ((store_far n4 _ _).trans k0)), (cell_all (by simpa using ye) _).trans ((store_far nE _ _).trans ((store_far nE _ _).trans g3))⟩ (fun hHeld => ?_)
                  clear hK K
                  try simp only [List.getElem_toArray, List.getElem_cons_zero, List.getElem_cons_succ, Act.put, List.setIfInBounds_toArray, List.set_cons_zero, List.set_cons_succ]
                  refine wpAnyH_done (by kernel_rfl) ?_ _
                  have n13 : wr.heap.size ≠ rt := HR13.out.ne HL1.out.rt (by decide)
                  have hl4 : Lo w ((((W1.setCell ⟨rt, 0, none⟩ (.iface 63 (.pointer (some ⟨W1.heap.size, 0, none⟩)))).setCell ⟨rt, 1, none⟩ (.int .i32 loc)).alloc (.cells #[.slice vx len vcap, .int .i32 0, .int .i32 0, .bool sl, .bool false] 244)).drew) p S mm un loc rt (cnt Bf i).1 (cnt Bf i).2.1 len (.slice vx len vcap) (.iface 63 (.pointer (some ⟨W1.heap.size, 0, none⟩))) loc := (HL1.out.set hrt _ _).below ((Below.refl _ _).alloc (Nat.le_refl _) _).drew
                  have r13 : RowAt ((((W1.setCell ⟨rt, 0, none⟩ (.iface 63 (.pointer (some ⟨W1.heap.size, 0, none⟩)))).setCell ⟨rt, 1, none⟩ (.int .i32 loc)).alloc (.cells #[.slice vx len vcap, .int .i32 0, .int .i32 0, .bool sl, .bool false] 244)).drew) wr.heap.size #[.pointer none, .nilIface, .int .i32 0, .iface 234 (.pointer (some ⟨qf i, 0, none⟩)), .int .i32 0, .nilIface, .int .i32 0, .slice none 0 0, .int .i32 0, .int .i32 0, .int .u8 5, .int .u8 0] 242 := ((HR13.out.set_other n13 _ _).set_other n13 _ _).alloc _
                  clear k0 fr r0 r1 g3 y4 yt ye
                  have HL4 := Lib.hid hl4
                  have R13 := Lib.hid r13
                  clear hl4 r13 hHeld
                  generalize hW4 : (((W1.setCell ⟨rt, 0, none⟩ (.iface 63 (.pointer (some ⟨W1.heap.size, 0, none⟩)))).setCell ⟨rt, 1, none⟩ (.int .i32 loc)).alloc (.cells #[.slice vx len vcap, .int .i32 0, .int .i32 0, .bool sl, .bool false] 244)).drew = W4 at HL4 R13 ⊢
                  have zb : w.heap.size ≤ W4.heap.size := HL4.out.fr.size
                  clear hW4 HL1 HR13
                  have k4 := HL4.out.r4.cellv (j := 0) (v := .int .i32 loc) rfl
                  have t0 := HL4.out.rt.cellv (j := 0) (v := .iface 63 (.pointer (some ⟨W1.heap.size, 0, none⟩))) rfl
                  have t1 := HL4.out.rt.cellv (j := 1) (v := .int .i32 loc) rfl
                  have ft := HL4.out.rt.frozen
                  have u3 := R13.out.cellv (j := 3) (v := .iface 234 (.pointer (some ⟨qf i, 0, none⟩))) rfl
                  have u4 := R13.out.cellv (j := 4) (v := .int .i32 0) rfl
                  have j4 := HL4.out.r4.lt
                  have jt := HL4.out.rt.lt
                  have j13 := R13.out.lt
                  have j41 : w.heap.size < W4.heap.size + 1 := by omega
                  have jt1 : rt < W4.heap.size + 1 := by omega
                  have j131 : wr.heap.size < W4.heap.size + 1 := by omega
                  have HE := Lib.hid e1
                  clear e1
                  go_wp2_with fail
                  refine (call38 p S mm un loc (cnt Bf i).1 ((cnt Bf i).2.1) 0 (cnt Bf i).1 kV _ 2 2 _ (.inl ⟨rfl, rfl, rfl⟩) (by have := cnt_le Bf i; omega) (HL4.out.os.below (by go_grown))).mono ?_
                  rintro e w5 ⟨⟨x5, rfl⟩, hos5, hfr5⟩
                  have hl5' : Lo w w5 p S mm un loc rt ((cnt Bf i).1 + 1) ((cnt Bf i).2.1) len (.slice vx len vcap) (.iface 63 (.pointer (some ⟨W1.heap.size, 0, none⟩))) loc := by
                    refine Lo.call (HL4.out.below ?_) zS hrt hos5 hfr5
                    go_grown
                  have hemp : RowAt w5 W4.heap.size #[] 242 := hfr5.row ((RowAt.new W4 _ _).alloc _) (fun e => by have : W4.heap.size = S := e; omega)
                  have hl5 : Lo w w5 p S mm un loc rt ((cnt Bf i).1 + 1) ((cnt Bf i).2.1) 0 (.slice (some ⟨W4.heap.size, 0, none⟩) 0 0) (.iface 63 (.pointer (some ⟨W1.heap.size, 0, none⟩))) loc :=
                    ⟨hl5'.os, hl5'.fr, hl5'.r4, hl5'.r6, hl5'.rt, [], own_empty hemp (by omega)⟩
                  clear hl5' hemp
                  have HL6 := Lib.hid (hl5.set hrt (.iface 264 (.pointer (some ⟨x5, 0, none⟩))) loc)
                  have s0 := hl5.rt.cellv (j := 0) (v := .iface 63 (.pointer (some ⟨W1.heap.size, 0, none⟩))) rfl
                  have s1 := hl5.rt.cellv (j := 1) (v := .int .i32 loc) rfl
                  have fs := hl5.rt.frozen
                  have ys := hl5.rt.lt
                  clear hl5 hos5 hfr5
                  go_wp2_with fail
                  go_roundw
                  case rel =>
                    refine ⟨i + 1, 0, .slice (some ⟨W4.heap.size, 0, none⟩) 0 0, .iface 264 (.pointer (some ⟨x5, 0, none⟩)), loc, by omega, by go_num, rfl, ?_, ?_, by omega, ?_⟩
                    · rw [HE.out]; exact HL6.out
                    · rw [HE.out]; simp
                    · rw [HE.out]; exact .inr ⟨by simp, rfl, x5, rfl⟩
                  case measure => simp [intOf]; omega
              · obtain ⟨x, rfl⟩ : ∃ x, d = .iface 264 (.pointer (some ⟨x, 0, none⟩)) := by
                  rcases hd with ⟨h0, _⟩ | ⟨_, _, h⟩
                  · exact absurd h0 hv0
                  · exact h
                clear hd
                by_cases hl0 : len = 0
                · subst hl0
                  have hpl0 : (cnt Bf i).2.2 = false := by
                    cases h : (cnt Bf i).2.2
                    · rfl
                    · exact absurd (hpl.2 h) (by omega)
                  have hq2 := HL.out.fr.row HRQ.out hSQ
                  have re2 := HL.out.fr.row HRE.out hSE
                  have k0 := HL.out.r4.cellv (j := 0) (v := .int .i32 loc) rfl
                  have r0 := HL.out.rt.cellv (j := 0) (v := .iface 264 (.pointer (some ⟨x, 0, none⟩))) rfl
                  have r1 := HL.out.rt.cellv (j := 1) (v := .int .i32 l) rfl
                  have fr := HL.out.rt.frozen
                  have ce2 := re2.cellv HE2.out
                  have ce3 := re2.cellv HE3.out
                  have y4 := HL.out.r4.lt
                  have yt := HL.out.rt.lt
                  have ye := re2.lt
                  have yq := hq2.lt
                  have y41 : w.heap.size < wr.heap.size + 1 := by omega
                  have yt1 : rt < wr.heap.size + 1 := by omega
                  have ye1 : EO < wr.heap.size + 1 := by omega
                  have y42 : w.heap.size < wr.heap.size + 1 + 1 := by omega
                  have yt2 : rt < wr.heap.size + 1 + 1 := by omega
                  have p0 : wr.cell? ⟨PR, i * 12, none⟩ = some (.pointer none) := hq2.cellv (HQ.out i hlt 0 _ rfl)
                  have p1 : wr.cell? ⟨PR, i * 12 + 1, none⟩ = some (.nilIface) := hq2.cellv (HQ.out i hlt 1 _ rfl)
                  have p2 : wr.cell? ⟨PR, i * 12 + 2, none⟩ = some (.int .i32 0) := hq2.cellv (HQ.out i hlt 2 _ rfl)
                  have p3 : wr.cell? ⟨PR, i * 12 + 3, none⟩ = some (.iface 234 (.pointer (some ⟨qf i, 0, none⟩))) := hq2.cellv (HQ.out i hlt 3 _ rfl)
                  have p4 : wr.cell? ⟨PR, i * 12 + 4, none⟩ = some (.int .i32 0) := hq2.cellv (HQ.out i hlt 4 _ rfl)
                  have p5 : wr.cell? ⟨PR, i * 12 + 5, none⟩ = some (.nilIface) := hq2.cellv (HQ.out i hlt 5 _ rfl)
                  have p6 : wr.cell? ⟨PR, i * 12 + 6, none⟩ = some (.int .i32 0) := hq2.cellv (HQ.out i hlt 6 _ rfl)
                  have p7 : wr.cell? ⟨PR, i * 12 + 7, none⟩ = some (.slice none 0 0) := hq2.cellv (HQ.out i hlt 7 _ rfl)
                  have p8 : wr.cell? ⟨PR, i * 12 + 8, none⟩ = some (.int .i32 0) := hq2.cellv (HQ.out i hlt 8 _ rfl)
                  have p9 : wr.cell? ⟨PR, i * 12 + 9, none⟩ = some (.int .i32 0) := hq2.cellv (HQ.out i hlt 9 _ rfl)
                  have p10 : wr.cell? ⟨PR, i * 12 + 10, none⟩ = some (.int .u8 5) := hq2.cellv (HQ.out i hlt 10 _ (by rw [hB]; rfl))
                  have p11 : wr.cell? ⟨PR, i * 12 + 11, none⟩ = some (.int .u8 0) := hq2.cellv (HQ.out i hlt 11 _ rfl)
                  clear hq2 re2
                  obtain ⟨xs, hown⟩ := HL.out.own
                  obtain ⟨vx, vcap, rfl⟩ := own_slice' hown
                  clear hown hB
                  have e1 : cnt Bf (i + 1) = ((cnt Bf i).1 + 1, (cnt Bf i).2.1, false) := by
                    conv => lhs; unfold cnt
                    rw [HBi.out, hpl0]
                    simp
                  have HE := Lib.hid e1
                  clear e1
                  go_wp2_with fail
                  refine (call38 p S mm un loc (cnt Bf i).1 (cnt Bf i).2.1 0 (cnt Bf i).1 kV _ 2 2 _ (.inl ⟨rfl, rfl, rfl⟩) (by have := cnt_le Bf i; omega) (HL.out.os.below (by go_grown))).mono ?_
                  rintro e w5 ⟨⟨x5, rfl⟩, hos5, hfr5⟩
                  have hl5 : Lo w w5 p S mm un loc rt ((cnt Bf i).1 + 1) (cnt Bf i).2.1 0 (.slice vx 0 vcap) (.iface 264 (.pointer (some ⟨x, 0, none⟩))) l := by
                    refine Lo.call (HL.out.below ?_) zS hrt hos5 hfr5
                    go_grown
                  have HL6 := Lib.hid (hl5.set hrt (.iface 264 (.pointer (some ⟨x5, 0, none⟩))) loc)
                  have s0 := hl5.rt.cellv (j := 0) (v := .iface 264 (.pointer (some ⟨x, 0, none⟩))) rfl
                  have s1 := hl5.rt.cellv (j := 1) (v := .int .i32 l) rfl
                  have fs := hl5.rt.frozen
                  have ys := hl5.rt.lt
                  clear hl5 hos5 hfr5
                  go_wp2_with fail
                  go_roundw
                  case rel =>
                    refine ⟨i + 1, 0, .slice vx 0 vcap, .iface 264 (.pointer (some ⟨x5, 0, none⟩)), loc, by omega, by go_num, rfl, ?_, ?_, by omega, ?_⟩
                    · rw [HE.out]; exact HL6.out
                    · rw [HE.out]; simp
                    · rw [HE.out]; exact .inr ⟨by simp, rfl, x5, rfl⟩
                  case measure => simp [intOf]; omega
                · have hlp : 0 < len := by omega
                  have hvp : 0 < (cnt Bf i).1 := by omega
                  have hpt : (cnt Bf i).2.2 = true := hpl.1 hlp
                  have HZS : Hid (S < wr.heap.size) := Nat.lt_of_lt_of_le zS HL.out.fr.size
                  clear hpl
                  have hq2 := HL.out.fr.row HRQ.out hSQ
                  have re2 := HL.out.fr.row HRE.out hSE
                  have k0 := HL.out.r4.cellv (j := 0) (v := .int .i32 loc) rfl
                  have r0 := HL.out.rt.cellv (j := 0) (v := .iface 264 (.pointer (some ⟨x, 0, none⟩))) rfl
                  have r1 := HL.out.rt.cellv (j := 1) (v := .int .i32 l) rfl
                  have fr := HL.out.rt.frozen
                  have ce2 := re2.cellv HE2.out
                  have ce3 := re2.cellv HE3.out
                  have y4 := HL.out.r4.lt
                  have yt := HL.out.rt.lt
                  have ye := re2.lt
                  have yq := hq2.lt
                  have y41 : w.heap.size < wr.heap.size + 1 := by omega
                  have yt1 : rt < wr.heap.size + 1 := by omega
                  have ye1 : EO < wr.heap.size + 1 := by omega
                  have y42 : w.heap.size < wr.heap.size + 1 + 1 := by omega
                  have yt2 : rt < wr.heap.size + 1 + 1 := by omega
                  have p0 : wr.cell? ⟨PR, i * 12, none⟩ = some (.pointer none) := hq2.cellv (HQ.out i hlt 0 _ rfl)
                  have p1 : wr.cell? ⟨PR, i * 12 + 1, none⟩ = some (.nilIface) := hq2.cellv (HQ.out i hlt 1 _ rfl)
                  have p2 : wr.cell? ⟨PR, i * 12 + 2, none⟩ = some (.int .i32 0) := hq2.cellv (HQ.out i hlt 2 _ rfl)
                  have p3 : wr.cell? ⟨PR, i * 12 + 3, none⟩ = some (.iface 234 (.pointer (some ⟨qf i, 0, none⟩))) := hq2.cellv (HQ.out i hlt 3 _ rfl)
                  have p4 : wr.cell? ⟨PR, i * 12 + 4, none⟩ = some (.int .i32 0) := hq2.cellv (HQ.out i hlt 4 _ rfl)
                  have p5 : wr.cell? ⟨PR, i * 12 + 5, none⟩ = some (.nilIface) := hq2.cellv (HQ.out i hlt 5 _ rfl)
                  have p6 : wr.cell? ⟨PR, i * 12 + 6, none⟩ = some (.int .i32 0) := hq2.cellv (HQ.out i hlt 6 _ rfl)
                  have p7 : wr.cell? ⟨PR, i * 12 + 7, none⟩ = some (.slice none 0 0) := hq2.cellv (HQ.out i hlt 7 _ rfl)
                  have p8 : wr.cell? ⟨PR, i * 12 + 8, none⟩ = some (.int .i32 0) := hq2.cellv (HQ.out i hlt 8 _ rfl)
                  have p9 : wr.cell? ⟨PR, i * 12 + 9, none⟩ = some (.int .i32 0) := hq2.cellv (HQ.out i hlt 9 _ rfl)
                  have p10 : wr.cell? ⟨PR, i * 12 + 10, none⟩ = some (.int .u8 5) := hq2.cellv (HQ.out i hlt 10 _ (by rw [hB]; rfl))
                  have p11 : wr.cell? ⟨PR, i * 12 + 11, none⟩ = some (.int .u8 0) := hq2.cellv (HQ.out i hlt 11 _ rfl)
                  clear hq2 re2
                  obtain ⟨xs, hown⟩ := HL.out.own
                  obtain ⟨vx, vcap, rfl⟩ := own_slice' hown
                  clear hown hB
                  have e1 : cnt Bf (i + 1) = ((cnt Bf i).1 + 1, (cnt Bf i).2.1 + 1, false) := by
                    conv => lhs; unfold cnt
                    rw [HBi.out]
                    simp [hpt, hvp]
                  clear hpt
                  go_wp2_with fail
                  have hb1 : Below wr.heap.size wr (wr.alloc (.cells #[.pointer none, .nilIface, .int .i32 0, .iface 234 (.pointer (some ⟨qf i, 0, none⟩)), .int .i32 0, .nilIface, .int .i32 0, .slice none 0 0, .int .i32 0, .int .i32 0, .int .u8 5, .int .u8 0] 242)) := (Below.refl _ _).alloc (Nat.le_refl _) _
                  have hl1 := HL.out.below hb1
                  have r13 : RowAt (wr.alloc (.cells #[.pointer none, .nilIface, .int .i32 0, .iface 234 (.pointer (some ⟨qf i, 0, none⟩)), .int .i32 0, .nilIface, .int .i32 0, .slice none 0 0, .int .i32 0, .int .i32 0, .int .u8 5, .int .u8 0] 242)) wr.heap.size #[.pointer none, .nilIface, .int .i32 0, .iface 234 (.pointer (some ⟨qf i, 0, none⟩)), .int .i32 0, .nilIface, .int .i32 0, .slice none 0 0, .int .i32 0, .int .i32 0, .int .u8 5, .int .u8 0] 242 := RowAt.new wr _ _
                  have nE : EO ≠ rt := (HL.out.fr.row HRE.out hSE).ne HL.out.rt (by decide)
                  have g3 : (wr.alloc (.cells #[.pointer none, .nilIface, .int .i32 0, .iface 234 (.pointer (some ⟨qf i, 0, none⟩)), .int .i32 0, .nilIface, .int .i32 0, .slice none 0 0, .int .i32 0, .int .i32 0, .int .u8 5, .int .u8 0] 242)).cell? ⟨EO, 3, none⟩ = some (.bool sl) := ((HL.out.fr.row HRE.out hSE).alloc _).cellv HE3.out
                  clear p0 p1 p2 p3 p4 p5 p6 p7 p8 p9 p10 p11 r0 r1 fr k0 ce2 ce3 y4 yt ye yq y41 yt1 ye1 y42 yt2 hb1 HL
                  generalize hW1 : wr.alloc (.cells #[.pointer none, .nilIface, .int .i32 0, .iface 234 (.pointer (some ⟨qf i, 0, none⟩)), .int .i32 0, .nilIface, .int .i32 0, .slice none 0 0, .int .i32 0, .int .i32 0, .int .u8 5, .int .u8 0] 242) = W1 at hl1 r13 g3 ⊢
                  have z1 : wr.heap.size + 1 = W1.heap.size := by rw [← hW1]; simp
                  clear hW1
                  have n4 : w.heap.size ≠ rt := by omega
                  have k0 : W1.cell? ⟨w.heap.size, 0, none⟩ = some (.int .i32 loc) := hl1.r4.cellv rfl
                  have fr := hl1.rt.frozen
                  have r0 := hl1.rt.cellv (j := 0) (v := .iface 264 (.pointer (some ⟨x, 0, none⟩))) rfl
                  have r1 := hl1.rt.cellv (j := 1) (v := .int .i32 l) rfl
                  have y4 := hl1.r4.lt
                  have yt := hl1.rt.lt
                  have ye : EO < W1.heap.size := cell_lt g3
                  have HL1 := Lib.hid hl1
                  have HR13 := Lib.hid r13
                  clear hl1 r13
                  refine wp_region_held_drew (S := fun w' => w'.cell? ⟨w.heap.size, 0, none⟩ = some (.int .i32 loc) ∧ w'.cell? ⟨EO, 3, none⟩ = some (.bool sl)) (by kernel_rfl) (by go_keep) (fun hHeld => ?_)
                  refine wpAnyH_take (i := 0) (v := ?_) rfl (by kernel_rfl) (by kernel_rfl) (by kernel_rfl) (fun _ _ _ h => h) (Or.inl ⟨by rfl, ?_⟩) (by assumption) ?_
                  rotate_left
                  · (intro w' hSw; (try dsimp only at hSw); go_simp; with_reducible rfl)
                  try simp only [List.getElem_toArray, List.getElem_cons_zero, List.getElem_cons_succ, Act.put, List.setIfInBounds_toArray, List.set_cons_zero, List.set_cons_succ]
                  refine wpAnyH_take (i := 1) (v := ?_) rfl (by kernel_rfl) (by kernel_rfl) (by kernel_rfl) (fun _ _ _ h => h) (Or.inl ⟨by rfl, ?_⟩) (by assumption) ?_
                  rotate_left
                  · (intro w' hSw; (try dsimp only at hSw); go_simp; with_reducible rfl)
                  try simp only [List.getElem_toArray, List.getElem_cons_zero, List.getElem_cons_succ, Act.put, List.setIfInBounds_toArray, List.set_cons_zero, List.set_cons_succ]
                  refine wpAnyH_take (i := 3) (v := ?_) rfl (by kernel_rfl) (by kernel_rfl) (by kernel_rfl) (fun _ _ _ h => h) (Or.inl ⟨by rfl, ?_⟩) (by assumption) ?_
                  rotate_left
                  · (intro w' hSw; (try dsimp only at hSw); go_simp; with_reducible rfl)
                  try simp only [List.getElem_toArray, List.getElem_cons_zero, List.getElem_cons_succ, Act.put, List.setIfInBounds_toArray, List.set_cons_zero, List.set_cons_succ]
                  refine wpAnyH_take (i := 4) (v := ?_) rfl (by kernel_rfl) (by kernel_rfl) (by kernel_rfl) (fun _ _ _ h => h) (Or.inl ⟨by rfl, ?_⟩) (by assumption) ?_
                  rotate_left
                  · (intro w' hSw; (try dsimp only at hSw); go_simp; with_reducible rfl)
                  try simp only [List.getElem_toArray, List.getElem_cons_zero, List.getElem_cons_succ, Act.put, List.setIfInBounds_toArray, List.set_cons_zero, List.set_cons_succ]
                  refine wpAnyH_take (i := 5) (v := ?_) rfl (by kernel_rfl) (by kernel_rfl) (by kernel_rfl) (fun _ _ _ h => h) (Or.inl ⟨by rfl, ?_⟩) (by assumption) ?_
                  rotate_left
                  · (intro w' hSw; (try dsimp only at hSw); go_simp; with_reducible rfl)
                  try simp only [List.getElem_toArray, List.getElem_cons_zero, List.getElem_cons_succ, Act.put, List.setIfInBounds_toArray, List.set_cons_zero, List.set_cons_succ]
                  refine wpAnyH_take (i := 6) (v := ?_) rfl (by kernel_rfl) (by kernel_rfl) (by kernel_rfl) (fun _ _ _ h => h) (Or.inl ⟨by rfl, ?_⟩) (by assumption) ?_
                  rotate_left
                  · (intro w' hSw; (try dsimp only at hSw); go_simp; with_reducible rfl)
                  try simp only [List.getElem_toArray, List.getElem_cons_zero, List.getElem_cons_succ, Act.put, List.setIfInBounds_toArray, List.set_cons_zero, List.set_cons_succ]
                  refine wpAnyH_take (i := 7) (v := ?_) rfl (by kernel_rfl) (by kernel_rfl) (by kernel_rfl) (fun _ _ _ h => h) (Or.inl ⟨by rfl, ?_⟩) (by assumption) ?_
                  rotate_left
                  · (intro w' hSw; (try dsimp only at hSw); go_simp; with_reducible rfl)
                  try simp only [List.getElem_toArray, List.getElem_cons_zero, List.getElem_cons_succ, Act.put, List.setIfInBounds_toArray, List.set_cons_zero, List.set_cons_succ]
                  refine wpAnyH_take (i := 8) (v := ?_) rfl (by kernel_rfl) (by kernel_rfl) (by kernel_rfl) (fun _ _ _ h => h) (Or.inl ⟨by rfl, ?_⟩) (by assumption) ?_
                  rotate_left
                  · (intro w' hSw; (try dsimp only at hSw); go_simp; with_reducible rfl)
                  try simp only [List.getElem_toArray, List.getElem_cons_zero, List.getElem_cons_succ, Act.put, List.setIfInBounds_toArray, List.set_cons_zero, List.set_cons_succ]
                  refine wpAnyH_take (i := 9) (v := ?_) rfl (by kernel_rfl) (by kernel_rfl) (by kernel_rfl) (fun _ _ _ h => h) (Or.inl ⟨by rfl, ?_⟩) (by assumption) ?_
                  rotate_left
                  · (intro w' hSw; (try dsimp only at hSw); go_simp; with_reducible rfl)
                  try simp only [List.getElem_toArray, List.getElem_cons_zero, List.getElem_cons_succ, Act.put, List.setIfInBounds_toArray, List.set_cons_zero, List.set_cons_succ]
                  refine wpAnyH_ready (rs := [2, 10]) (by kernel_rfl) (by simp) ?_
                  refine AllReadyH.cons rfl (fun K hK => ?_) (AllReadyH.cons rfl (fun K hK => ?_) AllReadyH.nil)
                  · simp only [List.getElem_toArray, List.getElem_cons_zero, List.getElem_cons_succ]
                    go_simp
                    refine hK.out _ _ (by go_keep) (fun hHeld => ?_)
                    clear hK K
                    try simp only [List.getElem_toArray, List.getElem_cons_zero, List.getElem_cons_succ, Act.put, List.setIfInBounds_toArray, List.set_cons_zero, List.set_cons_succ]
                    refine wpAnyH_ready (rs := [10]) (by kernel_rfl) (by simp) ?_
                    refine AllReadyH.cons rfl (fun K hK => ?_) AllReadyH.nil
                    simp only [List.getElem_toArray, List.getElem_cons_zero, List.getElem_cons_succ]
                    go_simp
                    refine hK.out _ _ (by go_keep) (fun hHeld => ?_)
                    clear hK K
                    try simp only [List.getElem_toArray, List.getElem_cons_zero, List.getElem_cons_succ, Act.put, List.setIfInBounds_toArray, List.set_cons_zero, List.set_cons_succ]
                    refine wpAnyH_take (i := 11) (v := ?_) rfl (by kernel_rfl) (by kernel_rfl) (by kernel_rfl) (fun _ _ _ h => h) (Or.inl ⟨by rfl, ?_⟩) (by assumption) ?_
                    rotate_left
                    · (intro w' hSw; (try dsimp only at hSw); go_simp; with_reducible rfl)
                    try simp only [List.getElem_toArray, List.getElem_cons_zero, List.getElem_cons_succ, Act.put, List.setIfInBounds_toArray, List.set_cons_zero, List.set_cons_succ]
                    refine wpAnyH_take (i := 12) (v := ?_) rfl (by kernel_rfl) (by kernel_rfl) (by kernel_rfl) (fun _ _ _ h => h) (Or.inl ⟨by rfl, ?_⟩) (by assumption) ?_
                    rotate_left
                    · (intro w' hSw; (try dsimp only at hSw); go_simp; with_reducible rfl)
                    try simp only [List.getElem_toArray, List.getElem_cons_zero, List.getElem_cons_succ, Act.put, List.setIfInBounds_toArray, List.set_cons_zero, List.set_cons_succ]
                    refine wpAnyH_ready (rs := [13]) (by kernel_rfl) (by simp) ?_
                    refine AllReadyH.cons rfl (fun K hK => ?_) AllReadyH.nil
                    simp only [List.getElem_toArray, List.getElem_cons_zero, List.getElem_cons_succ]
                    go_simp
                    refine hK.out _ _ (by go_keep) (fun hHeld => ?_)
                    clear hK K
                    try simp only [List.getElem_toArray, List.getElem_cons_zero, List.getElem_cons_succ, Act.put, List.setIfInBounds_toArray, List.set_cons_zero, List.set_cons_succ]
                    refine wpAnyH_ready (rs := [14]) (by kernel_rfl) (by simp) ?_
                    refine AllReadyH.cons rfl (fun K hK => ?_) AllReadyH.nil
                    simp only [List.getElem_toArray, List.getElem_cons_zero, List.getElem_cons_succ]
                    go_simp
                    have hbq : Below W1.heap.size W1 ((W1.alloc (.cells #[.slice vx len vcap, .int .i32 0, .int .i32 0, .bool sl, .bool false] 244)).alloc (.cells #[.iface 264 (.pointer (some ⟨x, 0, none⟩)), .int .i32 l, .iface 63 (.pointer (some ⟨W1.heap.size, 0, none⟩)), .int .i32 loc] 38)).drew := (((Below.refl _ _).alloc (Nat.le_refl _) _).alloc (by simp) _).drew
                    refine (call38 p S mm un loc (cnt Bf i).1 (cnt Bf i).2.1 1 (cnt Bf i).2.1 kP _ 2 2 _ (.inr ⟨rfl, rfl, rfl⟩) (by have := cnt_le Bf i; omega) (HL1.out.os.below hbq)).mono ?_
                    rintro e w3 ⟨⟨x3, rfl⟩, hos3, hfr3⟩
                    have hl3 : Lo w w3 p S mm un loc rt (cnt Bf i).1 ((cnt Bf i).2.1 + 1) len (.slice vx len vcap) (.iface 264 (.pointer (some ⟨x, 0, none⟩))) l := Lo.call (HL1.out.below hbq) zS hrt hos3 hfr3
                    have q13 : RowAt w3 wr.heap.size #[.pointer none, .nilIface, .int .i32 0, .iface 234 (.pointer (some ⟨qf i, 0, none⟩)), .int .i32 0, .nilIface, .int .i32 0, .slice none 0 0, .int .i32 0, .int .i32 0, .int .u8 5, .int .u8 0] 242 := hfr3.row (HR13.out.below hbq HR13.out.lt) (fun e => by have h1 : wr.heap.size = S := e; have := HZS.out; omega)
                    clear k0 g3 fr r0 r1 y4 yt ye hHeld
                    have k0 : w3.cell? ⟨w.heap.size, 0, none⟩ = some (.int .i32 loc) := hl3.r4.cellv rfl
                    have g3 : w3.cell? ⟨EO, 3, none⟩ = some (.bool sl) := (hl3.fr.row HRE.out hSE).cellv HE3.out
                    have fr := hl3.rt.frozen
                    have r0 := hl3.rt.cellv (j := 0) (v := .iface 264 (.pointer (some ⟨x, 0, none⟩))) rfl
                    have r1 := hl3.rt.cellv (j := 1) (v := .int .i32 l) rfl
                    have HL3 := Lib.hid hl3
                    have Q13 := Lib.hid q13
                    clear hl3 q13 hos3 hfr3 hbq HL1 HR13
                    refine hK.out _ _ ⟨k0, g3⟩ (fun hHeld => ?_)
                    clear hK K
                    try simp only [List.getElem_toArray, List.getElem_cons_zero, List.getElem_cons_succ, Act.put, List.setIfInBounds_toArray, List.set_cons_zero, List.set_cons_succ]
                    refine wpAnyH_ready (rs := [15]) (by kernel_rfl) (by simp) ?_
                    refine AllReadyH.cons rfl (fun K hK => ?_) AllReadyH.nil
                    simp only [List.getElem_toArray, List.getElem_cons_zero, List.getElem_cons_succ]
                    go_simp
                    refine hK.out _ _ ⟨(store_far n4 _ _).trans ((store_far n4 _ _).trans k0), (store_far nE _ _).trans ((store_far nE _ _).trans g3)⟩ (fun hHeld => ?_)
                    clear hK K
                    try simp only [List.getElem_toArray, List.getElem_cons_zero, List.getElem_cons_succ, Act.put, List.setIfInBounds_toArray, List.set_cons_zero, List.set_cons_succ]
                    refine wpAnyH_done (by kernel_rfl) ?_ _
                    have n13 : wr.heap.size ≠ rt := Q13.out.ne HL3.out.rt (by decide)
                    have hl4 : Lo w ((w3.setCell ⟨rt, 0, none⟩ (.iface 264 (.pointer (some ⟨x3, 0, none⟩)))).setCell ⟨rt, 1, none⟩ (.int .i32 loc)) p S mm un loc rt (cnt Bf i).1 ((cnt Bf i).2.1 + 1) len (.slice vx len vcap) (.iface 264 (.pointer (some ⟨x3, 0, none⟩))) loc := HL3.out.set hrt _ _
                    have r13 : RowAt ((w3.setCell ⟨rt, 0, none⟩ (.iface 264 (.pointer (some ⟨x3, 0, none⟩)))).setCell ⟨rt, 1, none⟩ (.int .i32 loc)) wr.heap.size #[.pointer none, .nilIface, .int .i32 0, .iface 234 (.pointer (some ⟨qf i, 0, none⟩)), .int .i32 0, .nilIface, .int .i32 0, .slice none 0 0, .int .i32 0, .int .i32 0, .int .u8 5, .int .u8 0] 242 := (Q13.out.set_other n13 _ _).set_other n13 _ _
                    clear k0 fr r0 r1 g3
                    have HL4 := Lib.hid hl4
                    have R13 := Lib.hid r13
                    clear hl4 r13 hHeld
                    generalize hW4 : (w3.setCell ⟨rt, 0, none⟩ (.iface 264 (.pointer (some ⟨x3, 0, none⟩)))).setCell ⟨rt, 1, none⟩ (.int .i32 loc) = W4 at HL4 R13 ⊢
                    have zb : w.heap.size ≤ W4.heap.size := HL4.out.fr.size
                    clear hW4 HL3 Q13
                    have k4 := HL4.out.r4.cellv (j := 0) (v := .int .i32 loc) rfl
                    have t0 := HL4.out.rt.cellv (j := 0) (v := .iface 264 (.pointer (some ⟨x3, 0, none⟩))) rfl
                    have t1 := HL4.out.rt.cellv (j := 1) (v := .int .i32 loc) rfl
                    have ft := HL4.out.rt.frozen
                    have u3 := R13.out.cellv (j := 3) (v := .iface 234 (.pointer (some ⟨qf i, 0, none⟩))) rfl
                    have u4 := R13.out.cellv (j := 4) (v := .int .i32 0) rfl
                    have j4 := HL4.out.r4.lt
                    have jt := HL4.out.rt.lt
                    have j13 := R13.out.lt
                    have j41 : w.heap.size < W4.heap.size + 1 := by omega
                    have jt1 : rt < W4.heap.size + 1 := by omega
                    have j131 : wr.heap.size < W4.heap.size + 1 := by omega
                    have HE := Lib.hid e1
                    clear e1
                    go_wp2_with fail
                    refine (call38 p S mm un loc (cnt Bf i).1 ((cnt Bf i).2.1 + 1) 0 (cnt Bf i).1 kV _ 2 2 _ (.inl ⟨rfl, rfl, rfl⟩) (by have := cnt_le Bf i; omega) (HL4.out.os.below (by go_grown))).mono ?_
                    rintro e w5 ⟨⟨x5, rfl⟩, hos5, hfr5⟩
                    have hl5' : Lo w w5 p S mm un loc rt ((cnt Bf i).1 + 1) ((cnt Bf i).2.1 + 1) len (.slice vx len vcap) (.iface 264 (.pointer (some ⟨x3, 0, none⟩))) loc := by
                      refine Lo.call (HL4.out.below ?_) zS hrt hos5 hfr5
                      go_grown
                    have hemp : RowAt w5 W4.heap.size #[] 242 := hfr5.row ((RowAt.new W4 _ _).alloc _) (fun e => by have : W4.heap.size = S := e; omega)
                    have hl5 : Lo w w5 p S mm un loc rt ((cnt Bf i).1 + 1) ((cnt Bf i).2.1 + 1) 0 (.slice (some ⟨W4.heap.size, 0, none⟩) 0 0) (.iface 264 (.pointer (some ⟨x3, 0, none⟩))) loc :=
                      ⟨hl5'.os, hl5'.fr, hl5'.r4, hl5'.r6, hl5'.rt, [], own_empty hemp (by omega)⟩
                    clear hl5' hemp
                    have HL6 := Lib.hid (hl5.set hrt (.iface 264 (.pointer (some ⟨x5, 0, none⟩))) loc)
                    have s0 := hl5.rt.cellv (j := 0) (v := .iface 264 (.pointer (some ⟨x3, 0, none⟩))) rfl
                    have s1 := hl5.rt.cellv (j := 1) (v := .int .i32 loc) rfl
                    have fs := hl5.rt.frozen
                    have ys := hl5.rt.lt
                    clear hl5 hos5 hfr5
                    go_wp2_with fail
                    go_roundw
                    case rel =>
                      refine ⟨i + 1, 0, .slice (some ⟨W4.heap.size, 0, none⟩) 0 0, .iface 264 (.pointer (some ⟨x5, 0, none⟩)), loc, by omega, by go_num, rfl, ?_, ?_, by omega, ?_⟩
                      · rw [HE.out]; exact HL6.out
                      · rw [HE.out]; simp
                      · rw [HE.out]; exact .inr ⟨by simp, rfl, x5, rfl⟩
                    case measure => simp [intOf]; omega
                  · simp only [List.getElem_toArray, List.getElem_cons_zero, List.getElem_cons_succ]
                    go_simp
                    refine hK.out _ _ (by go_keep) (fun hHeld => ?_)
                    clear hK K
                    try simp only [List.getElem_toArray, List.getElem_cons_zero, List.getElem_cons_succ, Act.put, List.setIfInBounds_toArray, List.set_cons_zero, List.set_cons_succ]
                    refine wpAnyH_take (i := 11) (v := ?_) rfl (by kernel_rfl) (by kernel_rfl) (by kernel_rfl) (fun _ _ _ h => h) (Or.inl ⟨by rfl, ?_⟩) (by assumption) ?_
                    rotate_left
                    · (intro w' hSw; (try dsimp only at hSw); go_simp; with_reducible rfl)
                    try simp only [List.getElem_toArray, List.getElem_cons_zero, List.getElem_cons_succ, Act.put, List.setIfInBounds_toArray, List.set_cons_zero, List.set_cons_succ]
                    refine wpAnyH_take (i := 12) (v := ?_) rfl (by kernel_rfl) (by kernel_rfl) (by kernel_rfl) (fun _ _ _ h => h) (Or.inl ⟨by rfl, ?_⟩) (by assumption) ?_
                    rotate_left
                    · (intro w' hSw; (try dsimp only at hSw); go_simp; with_reducible rfl)
                    try simp only [List.getElem_toArray, List.getElem_cons_zero, List.getElem_cons_succ, Act.put, List.setIfInBounds_toArray, List.set_cons_zero, List.set_cons_succ]
                    refine wpAnyH_ready (rs := [2]) (by kernel_rfl) (by simp) ?_
                    refine AllReadyH.cons rfl (fun K hK => ?_) AllReadyH.nil
                    simp only [List.getElem_toArray, List.getElem_cons_zero, List.getElem_cons_succ]
                    go_simp
                    refine hK.out _ _ (by go_keep) (fun hHeld => ?_)
                    clear hK K
                    try simp only [List.getElem_toArray, List.getElem_cons_zero, List.getElem_cons_succ, Act.put, List.setIfInBounds_toArray, List.set_cons_zero, List.set_cons_succ]
                    refine wpAnyH_ready (rs := [13]) (by kernel_rfl) (by simp) ?_
                    refine AllReadyH.cons rfl (fun K hK => ?_) AllReadyH.nil
                    simp only [List.getElem_toArray, List.getElem_cons_zero, List.getElem_cons_succ]
                    go_simp
                    refine hK.out _ _ (by go_keep) (fun hHeld => ?_)
                    clear hK K
                    try simp only [List.getElem_toArray, List.getElem_cons_zero, List.getElem_cons_succ, Act.put, List.setIfInBounds_toArray, List.set_cons_zero, List.set_cons_succ]
                    refine wpAnyH_ready (rs := [14]) (by kernel_rfl) (by simp) ?_
                    refine AllReadyH.cons rfl (fun K hK => ?_) AllReadyH.nil
                    simp only [List.getElem_toArray, List.getElem_cons_zero, List.getElem_cons_succ]
                    go_simp
                    have hbq : Below W1.heap.size W1 ((W1.alloc (.cells #[.slice vx len vcap, .int .i32 0, .int .i32 0, .bool sl, .bool false] 244)).alloc (.cells #[.iface 264 (.pointer (some ⟨x, 0, none⟩)), .int .i32 l, .iface 63 (.pointer (some ⟨W1.heap.size, 0, none⟩)), .int .i32 loc] 38)).drew := (((Below.refl _ _).alloc (Nat.le_refl _) _).alloc (by simp) _).drew
                    refine (call38 p S mm un loc (cnt Bf i).1 (cnt Bf i).2.1 1 (cnt Bf i).2.1 kP _ 2 2 _ (.inr ⟨rfl, rfl, rfl⟩) (by have := cnt_le Bf i; omega) (HL1.out.os.below hbq)).mono ?_
                    rintro e w3 ⟨⟨x3, rfl⟩, hos3, hfr3⟩
                    have hl3 : Lo w w3 p S mm un loc rt (cnt Bf i).1 ((cnt Bf i).2.1 + 1) len (.slice vx len vcap) (.iface 264 (.pointer (some ⟨x, 0, none⟩))) l := Lo.call (HL1.out.below hbq) zS hrt hos3 hfr3
                    have q13 : RowAt w3 wr.heap.size #[.pointer none, .nilIface, .int .i32 0, .iface 234 (.pointer (some ⟨qf i, 0, none⟩)), .int .i32 0, .nilIface, .int .i32 0, .slice none 0 0, .int .i32 0, .int .i32 0, .int .u8 5, .int .u8 0] 242 := hfr3.row (HR13.out.below hbq HR13.out.lt) (fun e => by have h1 : wr.heap.size = S := e; have := HZS.out; omega)
                    clear k0 g3 fr r0 r1 y4 yt ye hHeld
                    have k0 : w3.cell? ⟨w.heap.size, 0, none⟩ = some (.int .i32 loc) := hl3.r4.cellv rfl
                    have g3 : w3.cell? ⟨EO, 3, none⟩ = some (.bool sl) := (hl3.fr.row HRE.out hSE).cellv HE3.out
                    have fr := hl3.rt.frozen
                    have r0 := hl3.rt.cellv (j := 0) (v := .iface 264 (.pointer (some ⟨x, 0, none⟩))) rfl
                    have r1 := hl3.rt.cellv (j := 1) (v := .int .i32 l) rfl
                    have HL3 := Lib.hid hl3
                    have Q13 := Lib.hid q13
                    clear hl3 q13 hos3 hfr3 hbq HL1 HR13
                    refine hK.out _ _ ⟨k0, g3⟩ (fun hHeld => ?_)
                    clear hK K
                    try simp only [List.getElem_toArray, List.getElem_cons_zero, List.getElem_cons_succ, Act.put, List.setIfInBounds_toArray, List.set_cons_zero, List.set_cons_succ]
                    refine wpAnyH_ready (rs := [15]) (by kernel_rfl) (by simp) ?_
                    refine AllReadyH.cons rfl (fun K hK => ?_) AllReadyH.nil
                    simp only [List.getElem_toArray, List.getElem_cons_zero, List.getElem_cons_succ]
                    go_simp
                    refine hK.out _ _ ⟨(store_far n4 _ _).trans ((store_far n4 _ _).trans k0), (store_far nE _ _).trans ((store_far nE _ _).trans g3)⟩ (fun hHeld => ?_)
                    clear hK K
                    try simp only [List.getElem_toArray, List.getElem_cons_zero, List.getElem_cons_succ, Act.put, List.setIfInBounds_toArray, List.set_cons_zero, List.set_cons_succ]
                    refine wpAnyH_done (by kernel_rfl) ?_ _
                    have n13 : wr.heap.size ≠ rt := Q13.out.ne HL3.out.rt (by decide)
                    have hl4 : Lo w ((w3.setCell ⟨rt, 0, none⟩ (.iface 264 (.pointer (some ⟨x3, 0, none⟩)))).setCell ⟨rt, 1, none⟩ (.int .i32 loc)) p S mm un loc rt (cnt Bf i).1 ((cnt Bf i).2.1 + 1) len (.slice vx len vcap) (.iface 264 (.pointer (some ⟨x3, 0, none⟩))) loc := HL3.out.set hrt _ _
                    have r13 : RowAt ((w3.setCell ⟨rt, 0, none⟩ (.iface 264 (.pointer (some ⟨x3, 0, none⟩)))).setCell ⟨rt, 1, none⟩ (.int .i32 loc)) wr.heap.size #[.pointer none, .nilIface, .int .i32 0, .iface 234 (.pointer (some ⟨qf i, 0, none⟩)), .int .i32 0, .nilIface, .int .i32 0, .slice none 0 0, .int .i32 0, .int .i32 0, .int .u8 5, .int .u8 0] 242 := (Q13.out.set_other n13 _ _).set_other n13 _ _
                    clear k0 fr r0 r1 g3
                    have HL4 := Lib.hid hl4
                    have R13 := Lib.hid r13
                    clear hl4 r13 hHeld
                    generalize hW4 : (w3.setCell ⟨rt, 0, none⟩ (.iface 264 (.pointer (some ⟨x3, 0, none⟩)))).setCell ⟨rt, 1, none⟩ (.int .i32 loc) = W4 at HL4 R13 ⊢
                    have zb : w.heap.size ≤ W4.heap.size := HL4.out.fr.size
                    clear hW4 HL3 Q13
                    have k4 := HL4.out.r4.cellv (j := 0) (v := .int .i32 loc) rfl
                    have t0 := HL4.out.rt.cellv (j := 0) (v := .iface 264 (.pointer (some ⟨x3, 0, none⟩))) rfl
                    have t1 := HL4.out.rt.cellv (j := 1) (v := .int .i32 loc) rfl
                    have ft := HL4.out.rt.frozen
                    have u3 := R13.out.cellv (j := 3) (v := .iface 234 (.pointer (some ⟨qf i, 0, none⟩))) rfl
                    have u4 := R13.out.cellv (j := 4) (v := .int .i32 0) rfl
                    have j4 := HL4.out.r4.lt
                    have jt := HL4.out.rt.lt
                    have j13 := R13.out.lt
                    have j41 : w.heap.size < W4.heap.size + 1 := by omega
                    have jt1 : rt < W4.heap.size + 1 := by omega
                    have j131 : wr.heap.size < W4.heap.size + 1 := by omega
                    have HE := Lib.hid e1
                    clear e1
                    go_wp2_with fail
                    refine (call38 p S mm un loc (cnt Bf i).1 ((cnt Bf i).2.1 + 1) 0 (cnt Bf i).1 kV _ 2 2 _ (.inl ⟨rfl, rfl, rfl⟩) (by have := cnt_le Bf i; omega) (HL4.out.os.below (by go_grown))).mono ?_
                    rintro e w5 ⟨⟨x5, rfl⟩, hos5, hfr5⟩
                    have hl5' : Lo w w5 p S mm un loc rt ((cnt Bf i).1 + 1) ((cnt Bf i).2.1 + 1) len (.slice vx len vcap) (.iface 264 (.pointer (some ⟨x3, 0, none⟩))) loc := by
                      refine Lo.call (HL4.out.below ?_) zS hrt hos5 hfr5
                      go_grown
                    have hemp : RowAt w5 W4.heap.size #[] 242 := hfr5.row ((RowAt.new W4 _ _).alloc _) (fun e => by have : W4.heap.size = S := e; omega)
                    have hl5 : Lo w w5 p S mm un loc rt ((cnt Bf i).1 + 1) ((cnt Bf i).2.1 + 1) 0 (.slice (some ⟨W4.heap.size, 0, none⟩) 0 0) (.iface 264 (.pointer (some ⟨x3, 0, none⟩))) loc :=
                      ⟨hl5'.os, hl5'.fr, hl5'.r4, hl5'.r6, hl5'.rt, [], own_empty hemp (by omega)⟩
                    clear hl5' hemp
                    have HL6 := Lib.hid (hl5.set hrt (.iface 264 (.pointer (some ⟨x5, 0, none⟩))) loc)
                    have s0 := hl5.rt.cellv (j := 0) (v := .iface 264 (.pointer (some ⟨x3, 0, none⟩))) rfl
                    have s1 := hl5.rt.cellv (j := 1) (v := .int .i32 loc) rfl
                    have fs := hl5.rt.frozen
                    have ys := hl5.rt.lt
                    clear hl5 hos5 hfr5
                    go_wp2_with fail
                    go_roundw
                    case rel =>
                      refine ⟨i + 1, 0, .slice (some ⟨W4.heap.size, 0, none⟩) 0 0, .iface 264 (.pointer (some ⟨x5, 0, none⟩)), loc, by omega, by go_num, rfl, ?_, ?_, by omega, ?_⟩
                      · rw [HE.out]; exact HL6.out
                      · rw [HE.out]; simp
                      · rw [HE.out]; exact .inr ⟨by simp, rfl, x5, rfl⟩
                    case measure => simp [intOf]; omega
          · obtain rfl : i = n := by omega
            obtain ⟨hvp, rfl, x, rfl⟩ : 0 < (cnt Bf i).1 ∧ loc = l ∧ ∃ x, d = .iface 264 (.pointer (some ⟨x, 0, none⟩)) := by
              rcases hd with ⟨h0, _⟩ | h
              · have := cnt_pos Bf hB0 i hi0
                omega
              · exact ⟨h.1, h.2.1.symm, h.2.2⟩
            clear hd
            by_cases hl0 : len = 0
            · subst hl0
              have e2 : (cnt Bf i).2.1 + plus (cnt Bf i).2.2 = (cnt Bf i).2.1 := by
                cases h : (cnt Bf i).2.2
                · rfl
                · exact absurd (hpl.2 h) (by omega)
              have E2 := Lib.hid e2
              obtain ⟨xs, hown⟩ := HL.out.own
              obtain ⟨vx, vcap, rfl⟩ := own_slice' hown
              clear hown hpl e2
              have t0 := HL.out.rt.cellv (j := 0) (v := .iface 264 (.pointer (some ⟨x, 0, none⟩))) rfl
              have t1 := HL.out.rt.cellv (j := 1) (v := .int .i32 loc) rfl
              have f6 := HL.out.r6.frozen
              have s0 := HL.out.r6.cellv (j := 0) (v := .nilIface) rfl
              have s1 := HL.out.r6.cellv (j := 1) (v := .int .i32 0) rfl
              have ys := HL.out.r6.lt
              have yt := HL.out.rt.lt
              go_wp2_with fail
              have q := (HL.out.r6.set 0 (.iface 264 (.pointer (some ⟨x, 0, none⟩)))).set 1 (.int .i32 loc)
              have q0 := q.cellv (j := 0) (v := .iface 264 (.pointer (some ⟨x, 0, none⟩))) rfl
              have q1 := q.cellv (j := 1) (v := .int .i32 loc) rfl
              refine bodyPost_ret (v := .agg #[.iface 264 (.pointer (some ⟨x, 0, none⟩)), .int .i32 loc]) (by simp [results, Tryd.results32, go_sem, q0, q1]) rfl ?_
              refine ⟨⟨_, _, rfl⟩, ?_, (HL.out.fr.set (.inr (Nat.le_succ _))).set (.inr (Nat.le_succ _))⟩
              rw [E2.out]
              exact (HL.out.os.setRow HL.out.r6 (by decide) (by decide)).setRow (HL.out.r6.set 0 _) (by decide) (by decide)
            · have hlp : 0 < len := by omega
              have e2 : (cnt Bf i).2.1 + plus (cnt Bf i).2.2 = (cnt Bf i).2.1 + 1 := by
                rw [hpl.1 hlp]
                rfl
              have E2 := Lib.hid e2
              obtain ⟨xs, hown⟩ := HL.out.own
              obtain ⟨vx, vcap, rfl⟩ := own_slice' hown
              clear hown hpl e2
              go_wp2_with fail
              have nE : EO ≠ rt := (HL.out.fr.row HRE.out hSE).ne HL.out.rt (by decide)
              have n4 : w.heap.size ≠ rt := by omega
              have g3 : wr.cell? ⟨EO, 3, none⟩ = some (.bool sl) := (HL.out.fr.row HRE.out hSE).cellv HE3.out
              have g2 : wr.cell? ⟨EO, 2, none⟩ = some (.int .i32 0) := (HL.out.fr.row HRE.out hSE).cellv HE2.out
              have k0 : wr.cell? ⟨w.heap.size, 0, none⟩ = some (.int .i32 loc) := HL.out.r4.cellv rfl
              have fr := HL.out.rt.frozen
              have r0 := HL.out.rt.cellv (j := 0) (v := .iface 264 (.pointer (some ⟨x, 0, none⟩))) rfl
              have r1 := HL.out.rt.cellv (j := 1) (v := .int .i32 loc) rfl
              have y4 := HL.out.r4.lt
              have yt := HL.out.rt.lt
              have ye : EO < wr.heap.size := cell_lt g3
              refine wp_region_held_drew (S := fun w' => w'.cell? ⟨w.heap.size, 0, none⟩ = some (.int .i32 loc) ∧ w'.cell? ⟨EO, 3, none⟩ = some (.bool sl) ∧ w'.cell? ⟨EO, 2, none⟩ = some (.int .i32 0)) (by kernel_rfl) (by go_keep) (fun hHeld => ?_)
              refine wpAnyH_take (i := 0) (v := ?_) rfl (by kernel_rfl) (by kernel_rfl) (by kernel_rfl) (fun _ _ _ h => h) (Or.inl ⟨by rfl, ?_⟩) (by assumption) ?_
              rotate_left
              · (intro w' hSw; (try dsimp only at hSw); go_simp; with_reducible rfl)
              try simp only [List.getElem_toArray, List.getElem_cons_zero, List.getElem_cons_succ, Act.put, List.setIfInBounds_toArray, List.set_cons_zero, List.set_cons_succ]
              refine wpAnyH_take (i := 1) (v := ?_) rfl (by kernel_rfl) (by kernel_rfl) (by kernel_rfl) (fun _ _ _ h => h) (Or.inl ⟨by rfl, ?_⟩) (by assumption) ?_
              rotate_left
              · (intro w' hSw; (try dsimp only at hSw); go_simp; with_reducible rfl)
              try simp only [List.getElem_toArray, List.getElem_cons_zero, List.getElem_cons_succ, Act.put, List.setIfInBounds_toArray, List.set_cons_zero, List.set_cons_succ]
              refine wpAnyH_take (i := 3) (v := ?_) rfl (by kernel_rfl) (by kernel_rfl) (by kernel_rfl) (fun _ _ _ h => h) (Or.inl ⟨by rfl, ?_⟩) (by assumption) ?_
              rotate_left
              · (intro w' hSw; (try dsimp only at hSw); go_simp; with_reducible rfl)
              try simp only [List.getElem_toArray, List.getElem_cons_zero, List.getElem_cons_succ, Act.put, List.setIfInBounds_toArray, List.set_cons_zero, List.set_cons_succ]
              refine wpAnyH_take (i := 4) (v := ?_) rfl (by kernel_rfl) (by kernel_rfl) (by kernel_rfl) (fun _ _ _ h => h) (Or.inl ⟨by rfl, ?_⟩) (by assumption) ?_
              rotate_left
              · (intro w' hSw; (try dsimp only at hSw); go_simp; with_reducible rfl)
              try simp only [List.getElem_toArray, List.getElem_cons_zero, List.getElem_cons_succ, Act.put, List.setIfInBounds_toArray, List.set_cons_zero, List.set_cons_succ]
              refine wpAnyH_take (i := 5) (v := ?_) rfl (by kernel_rfl) (by kernel_rfl) (by kernel_rfl) (fun _ _ _ h => h) (Or.inl ⟨by rfl, ?_⟩) (by assumption) ?_
              rotate_left
              · (intro w' hSw; (try dsimp only at hSw); go_simp; with_reducible rfl)
              try simp only [List.getElem_toArray, List.getElem_cons_zero, List.getElem_cons_succ, Act.put, List.setIfInBounds_toArray, List.set_cons_zero, List.set_cons_succ]
              refine wpAnyH_take (i := 6) (v := ?_) rfl (by kernel_rfl) (by kernel_rfl) (by kernel_rfl) (fun _ _ _ h => h) (Or.inl ⟨by rfl, ?_⟩) (by assumption) ?_
              rotate_left
              · (intro w' hSw; (try dsimp only at hSw); go_simp; with_reducible rfl)
              try simp only [List.getElem_toArray, List.getElem_cons_zero, List.getElem_cons_succ, Act.put, List.setIfInBounds_toArray, List.set_cons_zero, List.set_cons_succ]
              refine wpAnyH_take (i := 7) (v := ?_) rfl (by kernel_rfl) (by kernel_rfl) (by kernel_rfl) (fun _ _ _ h => h) (Or.inl ⟨by rfl, ?_⟩) (by assumption) ?_
              rotate_left
              · (intro w' hSw; (try dsimp only at hSw); go_simp; with_reducible rfl)
              try simp only [List.getElem_toArray, List.getElem_cons_zero, List.getElem_cons_succ, Act.put, List.setIfInBounds_toArray, List.set_cons_zero, List.set_cons_succ]
              refine wpAnyH_take (i := 8) (v := ?_) rfl (by kernel_rfl) (by kernel_rfl) (by kernel_rfl) (fun _ _ _ h => h) (Or.inl ⟨by rfl, ?_⟩) (by assumption) ?_
              rotate_left
              · (intro w' hSw; (try dsimp only at hSw); go_simp; with_reducible rfl)
              try simp only [List.getElem_toArray, List.getElem_cons_zero, List.getElem_cons_succ, Act.put, List.setIfInBounds_toArray, List.set_cons_zero, List.set_cons_succ]
              refine wpAnyH_take (i := 9) (v := ?_) rfl (by kernel_rfl) (by kernel_rfl) (by kernel_rfl) (fun _ _ _ h => h) (Or.inl ⟨by rfl, ?_⟩) (by assumption) ?_
              rotate_left
              · (intro w' hSw; (try dsimp only at hSw); go_simp; with_reducible rfl)
              try simp only [List.getElem_toArray, List.getElem_cons_zero, List.getElem_cons_succ, Act.put, List.setIfInBounds_toArray, List.set_cons_zero, List.set_cons_succ]
              refine wpAnyH_take (i := 10) (v := ?_) rfl (by kernel_rfl) (by kernel_rfl) (by kernel_rfl) (fun _ _ _ h => h) (Or.inl ⟨by rfl, ?_⟩) (by assumption) ?_
              rotate_left
              · (intro w' hSw; (try dsimp only at hSw); go_simp; with_reducible rfl)
              try simp only [List.getElem_toArray, List.getElem_cons_zero, List.getElem_cons_succ, Act.put, List.setIfInBounds_toArray, List.set_cons_zero, List.set_cons_succ]
              refine wpAnyH_take (i := 11) (v := ?_) rfl (by kernel_rfl) (by kernel_rfl) (by kernel_rfl) (fun _ _ _ h => h) (Or.inl ⟨by rfl, ?_⟩) (by assumption) ?_
              rotate_left
              · (intro w' hSw; (try dsimp only at hSw); go_simp; with_reducible rfl)
              try simp only [List.getElem_toArray, List.getElem_cons_zero, List.getElem_cons_succ, Act.put, List.setIfInBounds_toArray, List.set_cons_zero, List.set_cons_succ]
              refine wpAnyH_take (i := 12) (v := ?_) rfl (by kernel_rfl) (by kernel_rfl) (by kernel_rfl) (fun _ _ _ h => h) (Or.inl ⟨by rfl, ?_⟩) (by assumption) ?_
              rotate_left
              · (intro w' hSw; (try dsimp only at hSw); go_simp; with_reducible rfl)
              try simp only [List.getElem_toArray, List.getElem_cons_zero, List.getElem_cons_succ, Act.put, List.setIfInBounds_toArray, List.set_cons_zero, List.set_cons_succ]
              refine wpAnyH_take (i := 13) (v := ?_) rfl (by kernel_rfl) (by kernel_rfl) (by kernel_rfl) (fun _ _ _ h => h) (Or.inl ⟨by rfl, ?_⟩) (by assumption) ?_
              rotate_left
              · (intro w' hSw; (try dsimp only at hSw); go_simp; with_reducible rfl)
              try simp only [List.getElem_toArray, List.getElem_cons_zero, List.getElem_cons_succ, Act.put, List.setIfInBounds_toArray, List.set_cons_zero, List.set_cons_succ]
              refine wpAnyH_ready (rs := [2, 14]) (by kernel_rfl) (by simp) ?_
              refine AllReadyH.cons rfl (fun K hK => ?_) (AllReadyH.cons rfl (fun K hK => ?_) AllReadyH.nil)
              · simp only [List.getElem_toArray, List.getElem_cons_zero, List.getElem_cons_succ]
                go_simp
                refine hK.out _ _ (by go_keep) (fun hHeld => ?_)
                clear hK K
                try simp only [List.getElem_toArray, List.getElem_cons_zero, List.getElem_cons_succ, Act.put, List.setIfInBounds_toArray, List.set_cons_zero, List.set_cons_succ]
                refine wpAnyH_ready (rs := [14]) (by kernel_rfl) (by simp) ?_
                refine AllReadyH.cons rfl (fun K hK => ?_) AllReadyH.nil
                simp only [List.getElem_toArray, List.getElem_cons_zero, List.getElem_cons_succ]
                go_simp
                refine hK.out _ _ (by go_keep) (fun hHeld => ?_)
                clear hK K
                try simp only [List.getElem_toArray, List.getElem_cons_zero, List.getElem_cons_succ, Act.put, List.setIfInBounds_toArray, List.set_cons_zero, List.set_cons_succ]
                refine wpAnyH_take (i := 15) (v := ?_) rfl (by kernel_rfl) (by kernel_rfl) (by kernel_rfl) (fun _ _ _ h => h) (Or.inl ⟨by rfl, ?_⟩) (by assumption) ?_
                rotate_left
                · (intro w' hSw; (try dsimp only at hSw); go_simp; with_reducible rfl)
                try simp only [List.getElem_toArray, List.getElem_cons_zero, List.getElem_cons_succ, Act.put, List.setIfInBounds_toArray, List.set_cons_zero, List.set_cons_succ]
                refine wpAnyH_take (i := 16) (v := ?_) rfl (by kernel_rfl) (by kernel_rfl) (by kernel_rfl) (fun _ _ _ h => h) (Or.inl ⟨by rfl, ?_⟩) (by assumption) ?_
                rotate_left
                · (intro w' hSw; (try dsimp only at hSw); go_simp; with_reducible rfl)
                try simp only [List.getElem_toArray, List.getElem_cons_zero, List.getElem_cons_succ, Act.put, List.setIfInBounds_toArray, List.set_cons_zero, List.set_cons_succ]
                refine wpAnyH_ready (rs := [17]) (by kernel_rfl) (by simp) ?_
                refine AllReadyH.cons rfl (fun K hK => ?_) AllReadyH.nil
                simp only [List.getElem_toArray, List.getElem_cons_zero, List.getElem_cons_succ]
                go_simp
                refine hK.out _ _ (by go_keep) (fun hHeld => ?_)
                clear hK K
                try simp only [List.getElem_toArray, List.getElem_cons_zero, List.getElem_cons_succ, Act.put, List.setIfInBounds_toArray, List.set_cons_zero, List.set_cons_succ]
                refine wpAnyH_ready (rs := [18]) (by kernel_rfl) (by simp) ?_
                refine AllReadyH.cons rfl (fun K hK => ?_) AllReadyH.nil
                simp only [List.getElem_toArray, List.getElem_cons_zero, List.getElem_cons_succ]
                go_simp
                have hbq : Below wr.heap.size wr ((wr.alloc (.cells #[.slice vx len vcap, .int .i32 0, .int .i32 0, .bool sl, .bool false] 244)).alloc (.cells #[.iface 264 (.pointer (some ⟨x, 0, none⟩)), .int .i32 loc, .iface 63 (.pointer (some ⟨wr.heap.size, 0, none⟩)), .int .i32 loc] 38)).drew := (((Below.refl _ _).alloc (Nat.le_refl _) _).alloc (by simp) _).drew
                refine (call38 p S mm un loc (cnt Bf i).1 (cnt Bf i).2.1 1 (cnt Bf i).2.1 kP _ 2 2 _ (.inr ⟨rfl, rfl, rfl⟩) (by have := cnt_le Bf i; omega) (HL.out.os.below hbq)).mono ?_
                rintro e w3 ⟨⟨x3, rfl⟩, hos3, hfr3⟩
                have hl3 : Lo w w3 p S mm un loc rt (cnt Bf i).1 ((cnt Bf i).2.1 + 1) len (.slice vx len vcap) (.iface 264 (.pointer (some ⟨x, 0, none⟩))) loc := Lo.call (HL.out.below hbq) zS hrt hos3 hfr3
                clear k0 g2 g3 fr r0 r1 y4 yt ye hHeld
                have k0 : w3.cell? ⟨w.heap.size, 0, none⟩ = some (.int .i32 loc) := hl3.r4.cellv rfl
                have g3 : w3.cell? ⟨EO, 3, none⟩ = some (.bool sl) := (hl3.fr.row HRE.out hSE).cellv HE3.out
                have g2 : w3.cell? ⟨EO, 2, none⟩ = some (.int .i32 0) := (hl3.fr.row HRE.out hSE).cellv HE2.out
                have fr := hl3.rt.frozen
                have r0 := hl3.rt.cellv (j := 0) (v := .iface 264 (.pointer (some ⟨x, 0, none⟩))) rfl
                have r1 := hl3.rt.cellv (j := 1) (v := .int .i32 loc) rfl
                have HL3 := Lib.hid hl3
                clear hl3 hos3 hfr3 hbq HL
                refine hK.out _ _ ⟨k0, g3, g2⟩ (fun hHeld => ?_)
                clear hK K
                try simp only [List.getElem_toArray, List.getElem_cons_zero, List.getElem_cons_succ, Act.put, List.setIfInBounds_toArray, List.set_cons_zero, List.set_cons_succ]
                refine wpAnyH_ready (rs := [19]) (by kernel_rfl) (by simp) ?_
                refine AllReadyH.cons rfl (fun K hK => ?_) AllReadyH.nil
                simp only [List.getElem_toArray, List.getElem_cons_zero, List.getElem_cons_succ]
                go_simp
                refine hK.out _ _ ⟨(store_far n4 _ _).trans ((store_far n4 _ _).trans k0), (store_far nE _ _).trans ((store_far nE _ _).trans g3), (store_far nE _ _).trans ((store_far nE _ _).trans g2)⟩ (fun hHeld => ?_)
                clear hK K
                try simp only [List.getElem_toArray, List.getElem_cons_zero, List.getElem_cons_succ, Act.put, List.setIfInBounds_toArray, List.set_cons_zero, List.set_cons_succ]
                refine wpAnyH_done (by kernel_rfl) ?_ _
                have hl4 : Lo w ((w3.setCell ⟨rt, 0, none⟩ (.iface 264 (.pointer (some ⟨x3, 0, none⟩)))).setCell ⟨rt, 1, none⟩ (.int .i32 loc)) p S mm un loc rt (cnt Bf i).1 ((cnt Bf i).2.1 + 1) len (.slice vx len vcap) (.iface 264 (.pointer (some ⟨x3, 0, none⟩))) loc := HL3.out.set hrt _ _
                clear k0 fr r0 r1 g3 g2
                have HL4 := Lib.hid hl4
                clear hl4 hHeld
                generalize hW4 : (w3.setCell ⟨rt, 0, none⟩ (.iface 264 (.pointer (some ⟨x3, 0, none⟩)))).setCell ⟨rt, 1, none⟩ (.int .i32 loc) = W4 at HL4 ⊢
                clear hW4 HL3
                have t0 := HL4.out.rt.cellv (j := 0) (v := .iface 264 (.pointer (some ⟨x3, 0, none⟩))) rfl
                have t1 := HL4.out.rt.cellv (j := 1) (v := .int .i32 loc) rfl
                have f6 := HL4.out.r6.frozen
                have s0 := HL4.out.r6.cellv (j := 0) (v := .nilIface) rfl
                have s1 := HL4.out.r6.cellv (j := 1) (v := .int .i32 0) rfl
                have ys := HL4.out.r6.lt
                have yt := HL4.out.rt.lt
                go_wp2_with fail
                have q := (HL4.out.r6.set 0 (.iface 264 (.pointer (some ⟨x3, 0, none⟩)))).set 1 (.int .i32 loc)
                have q0 := q.cellv (j := 0) (v := .iface 264 (.pointer (some ⟨x3, 0, none⟩))) rfl
                have q1 := q.cellv (j := 1) (v := .int .i32 loc) rfl
                refine bodyPost_ret (v := .agg #[.iface 264 (.pointer (some ⟨x3, 0, none⟩)), .int .i32 loc]) (by simp [results, Tryd.results32, go_sem, q0, q1]) rfl ?_
                refine ⟨⟨_, _, rfl⟩, ?_, (HL4.out.fr.set (.inr (Nat.le_succ _))).set (.inr (Nat.le_succ _))⟩
                rw [E2.out]
                exact (HL4.out.os.setRow HL4.out.r6 (by decide) (by decide)).setRow (HL4.out.r6.set 0 _) (by decide) (by decide)
              · simp only [List.getElem_toArray, List.getElem_cons_zero, List.getElem_cons_succ]
                go_simp
                refine hK.out _ _ (by go_keep) (fun hHeld => ?_)
                clear hK K
                try simp only [List.getElem_toArray, List.getElem_cons_zero, List.getElem_cons_succ, Act.put, List.setIfInBounds_toArray, List.set_cons_zero, List.set_cons_succ]
                refine wpAnyH_take (i := 15) (v := ?_) rfl (by kernel_rfl) (by kernel_rfl) (by kernel_rfl) (fun _ _ _ h => h) (Or.inl ⟨by rfl, ?_⟩) (by assumption) ?_
                rotate_left
                · (intro w' hSw; (try dsimp only at hSw); go_simp; with_reducible rfl)
                try simp only [List.getElem_toArray, List.getElem_cons_zero, List.getElem_cons_succ, Act.put, List.setIfInBounds_toArray, List.set_cons_zero, List.set_cons_succ]
                refine wpAnyH_take (i := 16) (v := ?_) rfl (by kernel_rfl) (by kernel_rfl) (by kernel_rfl) (fun _ _ _ h => h) (Or.inl ⟨by rfl, ?_⟩) (by assumption) ?_
                rotate_left
                · (intro w' hSw; (try dsimp only at hSw); go_simp; with_reducible rfl)
                try simp only [List.getElem_toArray, List.getElem_cons_zero, List.getElem_cons_succ, Act.put, List.setIfInBounds_toArray, List.set_cons_zero, List.set_cons_succ]
                refine wpAnyH_ready (rs := [2]) (by kernel_rfl) (by simp) ?_
                refine AllReadyH.cons rfl (fun K hK => ?_) AllReadyH.nil
                simp only [List.getElem_toArray, List.getElem_cons_zero, List.getElem_cons_succ]
                go_simp
                refine hK.out _ _ (by go_keep) (fun hHeld => ?_)
                clear hK K
                try simp only [List.getElem_toArray, List.getElem_cons_zero, List.getElem_cons_succ, Act.put, List.setIfInBounds_toArray, List.set_cons_zero, List.set_cons_succ]
                refine wpAnyH_ready (rs := [17]) (by kernel_rfl) (by simp) ?_
                refine AllReadyH.cons rfl (fun K hK => ?_) AllReadyH.nil
                simp only [List.getElem_toArray, List.getElem_cons_zero, List.getElem_cons_succ]
                go_simp
                refine hK.out _ _ (by go_keep) (fun hHeld => ?_)
                clear hK K
                try simp only [List.getElem_toArray, List.getElem_cons_zero, List.getElem_cons_succ, Act.put, List.setIfInBounds_toArray, List.set_cons_zero, List.set_cons_succ]
                refine wpAnyH_ready (rs := [18]) (by kernel_rfl) (by simp) ?_
                refine AllReadyH.cons rfl (fun K hK => ?_) AllReadyH.nil
                simp only [List.getElem_toArray, List.getElem_cons_zero, List.getElem_cons_succ]
                go_simp
                have hbq : Below wr.heap.size wr ((wr.alloc (.cells #[.slice vx len vcap, .int .i32 0, .int .i32 0, .bool sl, .bool false] 244)).alloc (.cells #[.iface 264 (.pointer (some ⟨x, 0, none⟩)), .int .i32 loc, .iface 63 (.pointer (some ⟨wr.heap.size, 0, none⟩)), .int .i32 loc] 38)).drew := (((Below.refl _ _).alloc (Nat.le_refl _) _).alloc (by simp) _).drew
                refine (call38 p S mm un loc (cnt Bf i).1 (cnt Bf i).2.1 1 (cnt Bf i).2.1 kP _ 2 2 _ (.inr ⟨rfl, rfl, rfl⟩) (by have := cnt_le Bf i; omega) (HL.out.os.below hbq)).mono ?_
                rintro e w3 ⟨⟨x3, rfl⟩, hos3, hfr3⟩
                have hl3 : Lo w w3 p S mm un loc rt (cnt Bf i).1 ((cnt Bf i).2.1 + 1) len (.slice vx len vcap) (.iface 264 (.pointer (some ⟨x, 0, none⟩))) loc := Lo.call (HL.out.below hbq) zS hrt hos3 hfr3
                clear k0 g2 g3 fr r0 r1 y4 yt ye hHeld
                have k0 : w3.cell? ⟨w.heap.size, 0, none⟩ = some (.int .i32 loc) := hl3.r4.cellv rfl
                have g3 : w3.cell? ⟨EO, 3, none⟩ = some (.bool sl) := (hl3.fr.row HRE.out hSE).cellv HE3.out
                have g2 : w3.cell? ⟨EO, 2, none⟩ = some (.int .i32 0) := (hl3.fr.row HRE.out hSE).cellv HE2.out
                have fr := hl3.rt.frozen
                have r0 := hl3.rt.cellv (j := 0) (v := .iface 264 (.pointer (some ⟨x, 0, none⟩))) rfl
                have r1 := hl3.rt.cellv (j := 1) (v := .int .i32 loc) rfl
                have HL3 := Lib.hid hl3
                clear hl3 hos3 hfr3 hbq HL
                refine hK.out _ _ ⟨k0, g3, g2⟩ (fun hHeld => ?_)
                clear hK K
                try simp only [List.getElem_toArray, List.getElem_cons_zero, List.getElem_cons_succ, Act.put, List.setIfInBounds_toArray, List.set_cons_zero, List.set_cons_succ]
                refine wpAnyH_ready (rs := [19]) (by kernel_rfl) (by simp) ?_
                refine AllReadyH.cons rfl (fun K hK => ?_) AllReadyH.nil
                simp only [List.getElem_toArray, List.getElem_cons_zero, List.getElem_cons_succ]
                go_simp
                refine hK.out _ _ ⟨(store_far n4 _ _).trans ((store_far n4 _ _).trans k0), (store_far nE _ _).trans ((store_far nE _ _).trans g3), (store_far nE _ _).trans ((store_far nE _ _).trans g2)⟩ (fun hHeld => ?_)
                clear hK K
                try simp only [List.getElem_toArray, List.getElem_cons_zero, List.getElem_cons_succ, Act.put, List.setIfInBounds_toArray, List.set_cons_zero, List.set_cons_succ]
                refine wpAnyH_done (by kernel_rfl) ?_ _
                have hl4 : Lo w ((w3.setCell ⟨rt, 0, none⟩ (.iface 264 (.pointer (some ⟨x3, 0, none⟩)))).setCell ⟨rt, 1, none⟩ (.int .i32 loc)) p S mm un loc rt (cnt Bf i).1 ((cnt Bf i).2.1 + 1) len (.slice vx len vcap) (.iface 264 (.pointer (some ⟨x3, 0, none⟩))) loc := HL3.out.set hrt _ _
                clear k0 fr r0 r1 g3 g2
                have HL4 := Lib.hid hl4
                clear hl4 hHeld
                generalize hW4 : (w3.setCell ⟨rt, 0, none⟩ (.iface 264 (.pointer (some ⟨x3, 0, none⟩)))).setCell ⟨rt, 1, none⟩ (.int .i32 loc) = W4 at HL4 ⊢
                clear hW4 HL3
                have t0 := HL4.out.rt.cellv (j := 0) (v := .iface 264 (.pointer (some ⟨x3, 0, none⟩))) rfl
                have t1 := HL4.out.rt.cellv (j := 1) (v := .int .i32 loc) rfl
                have f6 := HL4.out.r6.frozen
                have s0 := HL4.out.r6.cellv (j := 0) (v := .nilIface) rfl
                have s1 := HL4.out.r6.cellv (j := 1) (v := .int .i32 0) rfl
                have ys := HL4.out.r6.lt
                have yt := HL4.out.rt.lt
                go_wp2_with fail
                have q := (HL4.out.r6.set 0 (.iface 264 (.pointer (some ⟨x3, 0, none⟩)))).set 1 (.int .i32 loc)
                have q0 := q.cellv (j := 0) (v := .iface 264 (.pointer (some ⟨x3, 0, none⟩))) rfl
                have q1 := q.cellv (j := 1) (v := .int .i32 loc) rfl
                refine bodyPost_ret (v := .agg #[.iface 264 (.pointer (some ⟨x3, 0, none⟩)), .int .i32 loc]) (by simp [results, Tryd.results32, go_sem, q0, q1]) rfl ?_
                refine ⟨⟨_, _, rfl⟩, ?_, (HL4.out.fr.set (.inr (Nat.le_succ _))).set (.inr (Nat.le_succ _))⟩
                rw [E2.out]
                exact (HL4.out.os.setRow HL4.out.r6 (by decide) (by decide)).setRow (HL4.out.r6.set 0 _) (by decide) (by decide)
    · exact absurd hB0 (by rw [HNO.out i0 (by omega)]; decide)


end Go.Proofs.YtfmfniddnlpkmaaDoor
