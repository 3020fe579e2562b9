import Derived.Test.YtfmfniddnlpkmaaDoorKit
import Derived.Test.YtfmfniddnlpkmaaDoorObA
namespace Go.Proofs.YtfmfniddnlpkmaaDoor
open Go.ChangeShapes Go.WideShapes Go.ChangeAt Go.RowKit
set_option linter.unusedVariables false
set_option maxRecDepth 100000
set_option maxHeartbeats 2000000

def Imp39 (p S mm : Nat) (un loc : Int) (f0 f1 k : Nat) (w : World) (e : Ending) (w' : World) : Prop := (∃ x, e = .returned (.agg #[.iface 203 (.pointer (some ⟨x, 0, none⟩)), .int .i32 loc])) ∧ OS w' p S mm un (inc k 0 f0) (inc k 1 f1) ∧ Fr (XS S) w w'
theorem Fr.row {X : Nat → Prop} {w w' : World} {b : Nat} {cs : Array Value} {t : TypeId} (h : Fr X w w') (hr : RowAt w b cs t) (hx : ¬ X b) : RowAt w' b cs t := (h.block b hr.lt hx).trans hr
set_option maxHeartbeats 4000000 in
theorem import39 (p S mm : Nat) (un loc : Int) (f0 f1 k f : Nat) (key : ByteArray) (w : World) (hk : k = 0 ∧ key = kV ∧ f = f0 ∨ k = 1 ∧ key = kP ∧ f = f1) (hf : f ≤ 1048576) (h : OS w p S mm un f0 f1) :
    Calls Tryd.prog 39 #[.pointer (some ⟨p, 0, none⟩), .agg #[.int .i32 loc], .string key] w (Imp39 p S mm un loc f0 f1 k w) := by
  obtain ⟨⟨cs, rp, pc⟩, ⟨ds, rs, _⟩, ⟨F, nm, hm, hV, hP⟩⟩ := id h
  have hF : F (.string key) = some (.agg #[.int .i32 0, .int .u32 0, .int .u32 k]) := by
    rcases hk with ⟨rfl, rfl, _⟩ | ⟨rfl, rfl, _⟩
    · exact hV
    · exact hP
  have hl : (Instr.lookup 140 (.map (some mm)) (.string key) true).run Tryd.prog ((w.alloc (.cells #[.int .i32 loc] 36)).alloc (.cells #[.nilIface, .int .i32 0] 38)) = .ok (.tuple #[.agg #[.int .i32 0, .int .u32 0, .int .u32 k], .bool true]) ((w.alloc (.cells #[.int .i32 loc] 36)).alloc (.cells #[.nilIface, .int .i32 0] 38)) := by
    have := MapIs.look (t := 140) (k := 9) (e := 194) ((hm.alloc (.cells #[.int .i32 loc] 36)).alloc (.cells #[.nilIface, .int .i32 0] 38)) keyS Tryd.underlying140 (zero194 _) (v := .string key) ⟨_, rfl⟩ true
    rw [hF] at this
    exact this
  have c117 := rp.cellv pc.c117
  have zp := rp.lt
  have zp1 : p < w.heap.size + 1 := by omega
  have zp2 : p < w.heap.size + 1 + 1 := by omega
  have zs := rs.lt
  have HH := Lib.hid h
  have HK := Lib.hid hk
  clear rp pc rs hm hV hP hF h hk
  go_enter Tryd.func39, Tryd.ntmps39
  go_wp2_with fail
  have hbw : Below w.heap.size w (((w.alloc (.cells #[.int .i32 loc] 36)).alloc (.cells #[.nilIface, .int .i32 0] 38)).alloc (.cells #[.int .i32 0, .int .u32 0, .int .u32 k] 194)) := (((Below.refl _ _).alloc (Nat.le_refl _) _).alloc (by simp) _).alloc (by simp; omega) _
  have R3 : RowAt (((w.alloc (.cells #[.int .i32 loc] 36)).alloc (.cells #[.nilIface, .int .i32 0] 38)).alloc (.cells #[.int .i32 0, .int .u32 0, .int .u32 k] 194)) w.heap.size #[.int .i32 loc] 36 := ((RowAt.new w _ _).alloc _).alloc _
  have R4 : RowAt (((w.alloc (.cells #[.int .i32 loc] 36)).alloc (.cells #[.nilIface, .int .i32 0] 38)).alloc (.cells #[.int .i32 0, .int .u32 0, .int .u32 k] 194)) (w.heap.size + 1) #[.nilIface, .int .i32 0] 38 := (RowAt.newAt (by simp)).alloc _
  have R5 : RowAt (((w.alloc (.cells #[.int .i32 loc] 36)).alloc (.cells #[.nilIface, .int .i32 0] 38)).alloc (.cells #[.int .i32 0, .int .u32 0, .int .u32 k] 194)) (w.heap.size + 1 + 1) #[.int .i32 0, .int .u32 0, .int .u32 k] 194 := RowAt.newAt (by simp)
  have A0 := HH.out.below hbw
  have HO : (∃ f, (k = 0 ∧ f = f0 ∨ k = 1 ∧ f = f1) ∧ f ≤ 1048576) := ⟨f, by rcases HK.out with ⟨a, _, b⟩ | ⟨a, _, b⟩; exact .inl ⟨a, b⟩; exact .inr ⟨a, b⟩, hf⟩
  clear hl c117 zp1 zp2
  generalize hW : ((w.alloc (.cells #[.int .i32 loc] 36)).alloc (.cells #[.nilIface, .int .i32 0] 38)).alloc (.cells #[.int .i32 0, .int .u32 0, .int .u32 k] 194) = W at hbw R3 R4 R5 A0 ⊢
  clear hW
  obtain ⟨f', hk', hf'⟩ := HO
  refine (rec36o p S mm un f0 f1 k f' W hk' hf' A0).mono ?_
  rintro e w5 ⟨rfl, hos, hfr⟩
  have V3 := hfr.row R3 (fun e => by have : w.heap.size = S := e; omega)
  have V4 := hfr.row R4 (fun e => by have : w.heap.size + 1 = S := e; omega)
  have V5 := hfr.row R5 (fun e => by have : w.heap.size + 1 + 1 = S := e; omega)
  have HOS := Lib.hid hos
  have HFR : Hid (Fr (XS S) w w5) := (Fr.of_below hbw).trans hfr
  have k0 := V3.cellv (j := 0) (v := .int .i32 loc) rfl
  have r0 := V4.cellv (j := 0) (v := .nilIface) rfl
  have r1 := V4.cellv (j := 1) (v := .int .i32 0) rfl
  have fr := V4.frozen
  have s1 := V5.cellv (j := 1) (v := .int .u32 0) rfl
  have s2 := V5.cellv (j := 2) (v := .int .u32 k) rfl
  have y3 := V3.lt
  have y4 := V4.lt
  have y5 := V5.lt
  have HV4 := Lib.hid V4
  clear R3 R4 R5 A0 hk' hf' hos hfr V3 V4 V5 hbw
  go_wp2_with fail
  have X : Value := .iface 203 (.pointer (some ⟨w5.heap.size, 0, none⟩))
  have q : RowAt (World.alloc ((w5.setCell ⟨w.heap.size + 1, 0, none⟩ (.iface 203 (.pointer (some ⟨w5.heap.size, 0, none⟩)))).setCell ⟨w.heap.size + 1, 1, none⟩ (.int .i32 loc)) (.cells #[.int .u32 0, .int .u32 k, .bool false, .bool false, .bool false] 205)) (w.heap.size + 1) _ 38 := ((HV4.out.set 0 (.iface 203 (.pointer (some ⟨w5.heap.size, 0, none⟩)))).set 1 (.int .i32 loc)).alloc _
  have q0 := q.cellv (j := 0) (v := .iface 203 (.pointer (some ⟨w5.heap.size, 0, none⟩))) rfl
  have q1 := q.cellv (j := 1) (v := .int .i32 loc) rfl
  refine bodyPost_ret (v := .agg #[.iface 203 (.pointer (some ⟨w5.heap.size, 0, none⟩)), .int .i32 loc]) (by simp [results, Tryd.results39, go_sem, q0, q1]) rfl ?_
  refine ⟨⟨_, rfl⟩, OS.below ((HOS.out.setRow HV4.out (by decide) (by decide)).setRow (HV4.out.set 0 _) (by decide) (by decide)) ((Below.refl _ _).alloc (Nat.le_refl _) _), ?_⟩
  exact (((HFR.out.set (.inr (Nat.le_succ _))).set (.inr (Nat.le_succ _))).alloc _)

end Go.Proofs.YtfmfniddnlpkmaaDoor
