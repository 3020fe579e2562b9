import Derived.Test.YtfmfniddnlpkmaaDoorKit
import Derived.Test.YtfmfniddnlpkmaaDoorObC
namespace Go.Proofs.YtfmfniddnlpkmaaDoor
open Go.ChangeShapes Go.WideShapes Go.ChangeAt Go.RowKit
set_option linter.unusedVariables false
set_option maxRecDepth 100000
set_option maxHeartbeats 2000000

theorem info242 : (Tryd.prog.info? 242).map (fun i => (i.zero, i.size, i.bytes)) = some (some (.agg #[.pointer none, .nilIface, .int .i32 0, .nilIface, .int .i32 0, .nilIface, .int .i32 0, .slice none 0 0, .int .i32 0, .int .i32 0, .int .u8 0, .int .u8 0]), 12, 120) := by kernel_rfl
theorem has33x (a : Int) (w : World) : Calls Tryd.prog 33 #[.int .u64 a, .int .u64 35184372088832] w fun e w' => e = .returned (.bool (bits BinOp.and IntKind.u64 a 35184372088832 != 0)) ∧ w = w' := by
  go_enter Tryd.func33, Tryd.ntmps33
  go_wp2_with fail
  go_ret
  exact ⟨rfl, rfl⟩
def kd (b : Bool) : Int := if b then 5 else 0
/-- A property's cells. -/
def pC (q : Nat) (b : Bool) : Array Value := #[.pointer none, .nilIface, .int .i32 0, .iface 234 (.pointer (some ⟨q, 0, none⟩)), .int .i32 0, .nilIface, .int .i32 0, .slice none 0 0, .int .i32 0, .int .i32 0, .int .u8 (kd b), .int .u8 0]
/-- The object with its properties. -/
def Obj32 (w : World) (EO PR n : Nat) (sl : Bool) (qf : Nat → Nat) (Bf : Nat → Bool) : Prop :=
  (∃ es, RowAt w EO es 244 ∧ es[0]? = some (.slice (some ⟨PR, 0, none⟩) n n) ∧ es[2]? = some (.int .i32 0) ∧ es[3]? = some (.bool sl)) ∧
  ∃ cs, RowAt w PR cs 242 ∧ ∀ i, i < n → ∀ j v, (pC (qf i) (Bf i))[j]? = some v → cs[i * 12 + j]? = some v
theorem Obj32.fr {w w' : World} {EO PR n S : Nat} {sl : Bool} {qf : Nat → Nat} {Bf : Nat → Bool} (h : Obj32 w EO PR n sl qf Bf) (hf : Fr (XS S) w w') (hS : ∃ ds, RowAt w S ds 59) : Obj32 w' EO PR n sl qf Bf := by
  obtain ⟨⟨es, h1, h2⟩, ⟨cs, h3, h4⟩⟩ := h
  obtain ⟨ds, hs⟩ := hS
  exact ⟨⟨es, hf.row h1 (h1.ne hs (by decide)), h2⟩, ⟨cs, hf.row h3 (h3.ne hs (by decide)), h4⟩⟩
def Low (p S mm : Nat) (un loc : Int) (f0 f1 : Nat) (w : World) (e : Ending) (w' : World) : Prop := (∃ T b, e = .returned (.agg #[.iface T (.pointer (some ⟨b, 0, none⟩)), .int .i32 loc])) ∧ OS w' p S mm un f0 f1 ∧ Fr (XS S) w w'

set_option maxHeartbeats 8000000 in
theorem lower32N (p S mm EO PR n : Nat) (un loc : Int) (f0 f1 : Nat) (sl : Bool) (qf : Nat → Nat) (Bf : Nat → Bool) (w : World) (hn : n ≤ 65536) (h : OS w p S mm un f0 f1) (ho : Obj32 w EO PR n sl qf Bf) (hno : bits BinOp.and IntKind.u64 un 35184372088832 ≠ 0 → ∀ i, i < n → Bf i = false) :
    Calls Tryd.prog 32 #[.pointer (some ⟨p, 0, none⟩), .agg #[.int .i32 loc], .pointer (some ⟨EO, 0, none⟩)] w (Low p S mm un loc f0 f1 w) := by
  obtain ⟨⟨cs, rp, pc⟩, ⟨ds, rs, _⟩, _⟩ := id h
  have c23 := rp.cellv pc.c23
  have zp := rp.lt
  have zp1 : p < w.heap.size + 1 := by omega
  have zp2 : p < w.heap.size + 1 + 1 := by omega
  obtain ⟨⟨es, re, e0, e2, e3⟩, ⟨qs, rq, hq⟩⟩ := id ho
  have ce0 := re.cellv e0
  have ze := re.lt
  have ze1 : EO < w.heap.size + 1 := by omega
  have H33 := Lib.hid (fun W => has33x un W)
  have HH := Lib.hid h
  have HOb := Lib.hid ho
  have HRQ := Lib.hid rq
  have HQ := Lib.hid hq
  have HRS : Hid (∃ ds, RowAt w S ds 59) := ⟨ds, rs⟩
  obtain ⟨q, hqq⟩ : ∃ q, (bits BinOp.and IntKind.u64 un 35184372088832 != 0) = q := ⟨_, rfl⟩
  rw [hqq] at H33
  have HNO : Hid (q = true → ∀ i, i < n → Bf i = false) := fun e => hno (by rw [e] at hqq; simpa using hqq)
  clear rp pc rs re rq hq h ho hno hqq
  go_enter Tryd.func32, Tryd.ntmps32
  have hbw : Below w.heap.size w ((w.alloc (.cells #[.int .i32 loc] 36)).alloc (.cells #[.nilIface, .int .i32 0] 38)) := ((Below.refl _ _).alloc (Nat.le_refl _) _).alloc (by simp) _
  cases q
  · go_wp2_with (go_at_call 33; refine (H33.out _).mono ?_; rintro e wx ⟨rfl, rfl⟩)
    go_returns
    exact ⟨⟨_, _, rfl⟩, HH.out.below (((Below.refl _ _).alloc (Nat.le_refl _) _).alloc (by simp) _), Fr.of_below (((Below.refl _ _).alloc (Nat.le_refl _) _).alloc (by simp) _)⟩
  · go_wp2_with (go_at_call 33; refine (H33.out _).mono ?_; rintro e wx ⟨rfl, rfl⟩)
    have R3 : RowAt ((w.alloc (.cells #[.int .i32 loc] 36)).alloc (.cells #[.nilIface, .int .i32 0] 38)) w.heap.size #[.int .i32 loc] 36 := (RowAt.new w _ _).alloc _
    have R4 : RowAt ((w.alloc (.cells #[.int .i32 loc] 36)).alloc (.cells #[.nilIface, .int .i32 0] 38)) (w.heap.size + 1) #[.nilIface, .int .i32 0] 38 := RowAt.newAt (by simp)
    generalize hW : (w.alloc (.cells #[.int .i32 loc] 36)).alloc (.cells #[.nilIface, .int .i32 0] 38) = W at hbw R3 R4 ⊢
    clear hW
    have HBW := Lib.hid hbw
    have HR3 := Lib.hid R3
    have HR4 := Lib.hid R4
    clear hbw R3 R4 zp1 zp2 ze1 c23 ce0
    go_loopw [7, 26] (fun v7 v26 wr => ∃ i : Nat, i ≤ n ∧ v26 = .int .i64 i ∧ v7 = .bool false ∧ Below W.heap.size W wr) (fun _ v26 _ => n - (intOf v26).toNat)
    case atStart => exact ⟨0, Nat.zero_le _, rfl, rfl, Below.refl _ _⟩
    case round =>
      obtain ⟨i, hi, rfl, rfl, hb⟩ := hrel
      by_cases hlt : i < n
      · have hB := HNO.out trivial i hlt
        have hb0 := HBW.out.trans (hb.mono HBW.out.size)
        have hq2 := HRQ.out.below hb0 HRQ.out.lt
        have p0 : wr.cell? ⟨PR, i * 12, none⟩ = some (.pointer none) := hq2.cellv (HQ.out i hlt 0 _ rfl)
        have p1 : wr.cell? ⟨PR, i * 12 + 1, none⟩ = some (.nilIface) := hq2.cellv (HQ.out i hlt 1 _ rfl)
        have p2 : wr.cell? ⟨PR, i * 12 + 2, none⟩ = some (.int .i32 0) := hq2.cellv (HQ.out i hlt 2 _ rfl)
        have p3 : wr.cell? ⟨PR, i * 12 + 3, none⟩ = some (.iface 234 (.pointer (some ⟨qf i, 0, none⟩))) := hq2.cellv (HQ.out i hlt 3 _ rfl)
        have p4 : wr.cell? ⟨PR, i * 12 + 4, none⟩ = some (.int .i32 0) := hq2.cellv (HQ.out i hlt 4 _ rfl)
        have p5 : wr.cell? ⟨PR, i * 12 + 5, none⟩ = some (.nilIface) := hq2.cellv (HQ.out i hlt 5 _ rfl)
        have p6 : wr.cell? ⟨PR, i * 12 + 6, none⟩ = some (.int .i32 0) := hq2.cellv (HQ.out i hlt 6 _ rfl)
        have p7 : wr.cell? ⟨PR, i * 12 + 7, none⟩ = some (.slice none 0 0) := hq2.cellv (HQ.out i hlt 7 _ rfl)
        have p8 : wr.cell? ⟨PR, i * 12 + 8, none⟩ = some (.int .i32 0) := hq2.cellv (HQ.out i hlt 8 _ rfl)
        have p9 : wr.cell? ⟨PR, i * 12 + 9, none⟩ = some (.int .i32 0) := hq2.cellv (HQ.out i hlt 9 _ rfl)
        have p10 : wr.cell? ⟨PR, i * 12 + 10, none⟩ = some (.int .u8 0) := hq2.cellv (HQ.out i hlt 10 _ (by rw [hB]; rfl))
        have p11 : wr.cell? ⟨PR, i * 12 + 11, none⟩ = some (.int .u8 0) := hq2.cellv (HQ.out i hlt 11 _ rfl)
        have HB := Lib.hid hb
        clear hq2 hb0 hb hB
        go_wp2_with fail
        go_roundw
        case rel => exact ⟨i + 1, by omega, by go_num, rfl, HB.out.alloc HB.out.size _⟩
        case measure => simp [intOf]; omega
      · have V3 := HR3.out.below hb HR3.out.lt
        have V4 := HR4.out.below hb HR4.out.lt
        have k0 := V3.cellv (j := 0) (v := .int .i32 loc) rfl
        have r0 := V4.cellv (j := 0) (v := .nilIface) rfl
        have r1 := V4.cellv (j := 1) (v := .int .i32 0) rfl
        have fr := V4.frozen
        have HV4 := Lib.hid V4
        have HB := Lib.hid (HBW.out.trans (hb.mono HBW.out.size))
        clear V3 V4 hb
        go_wp2_with fail
        have q := (HV4.out.set 0 (.iface 63 (.pointer (some ⟨EO, 0, none⟩)))).set 1 (.int .i32 loc)
        have q0 := q.cellv (j := 0) (v := .iface 63 (.pointer (some ⟨EO, 0, none⟩))) rfl
        have q1 := q.cellv (j := 1) (v := .int .i32 loc) rfl
        refine bodyPost_ret (v := .agg #[.iface 63 (.pointer (some ⟨EO, 0, none⟩)), .int .i32 loc]) (by simp [results, Tryd.results32, go_sem, q0, q1]) rfl ?_
        exact ⟨⟨_, _, rfl⟩, ((HH.out.below HB.out).setRow HV4.out (by decide) (by decide)).setRow (HV4.out.set 0 _) (by decide) (by decide), ((Fr.of_below HB.out).set (.inr (Nat.le_succ _))).set (.inr (Nat.le_succ _))⟩

end Go.Proofs.YtfmfniddnlpkmaaDoor
