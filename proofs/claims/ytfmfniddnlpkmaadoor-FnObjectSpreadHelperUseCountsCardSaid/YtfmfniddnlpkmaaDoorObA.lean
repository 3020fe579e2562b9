import Derived.Test.YtfmfniddnlpkmaaDoorKit
import Derived.Test.YtfmfniddnlpkmaaDoorViA
import Derived.Test.YtfmfniddnlpkmaaDoorMap
namespace Go.Proofs.YtfmfniddnlpkmaaDoor
open Go.ChangeShapes Go.WideShapes Go.ChangeAt Go.RowKit
set_option linter.unusedVariables false
set_option maxRecDepth 100000
set_option maxHeartbeats 2000000

def kV : ByteArray := ⟨#[95, 95, 115, 112, 114, 101, 97, 100, 86, 97, 108, 117, 101, 115]⟩
def kP : ByteArray := ⟨#[95, 95, 115, 112, 114, 101, 97, 100, 80, 114, 111, 112, 115]⟩
theorem keyS : KeysLike Tryd.prog 9 IsStr := keys_str Tryd.underlying9
theorem zero194 (w : World) : (zeroValue 194).run Tryd.prog w = .ok (.agg #[.int .i32 0, .int .u32 0, .int .u32 0]) w := by kernel_rfl
structure OC (cs : Array Value) (un : Int) (S mm : Nat) : Prop where
  c23 : cs[23]? = some (.int .u64 un)
  c32 : cs[32]? = some (.bool false)
  c105 : cs[105]? = some (.pointer none)
  c106 : cs[106]? = some (.slice (some ⟨S, 0, none⟩) 4 4)
  c117 : cs[117]? = some (.map (some mm))
  c350 : cs[350]? = some (.bool false)
/-- The parser, its symbols' use counts, its runtime imports. -/
structure OS (w : World) (p S mm : Nat) (un : Int) (f0 f1 : Nat) : Prop where
  row : ∃ cs, RowAt w p cs 184 ∧ OC cs un S mm
  sy : ∃ ds, RowAt w S ds 59 ∧ ds[4]? = some (.int .u32 f0) ∧ ds[14]? = some (.int .u32 f1) ∧ ds[24]? = some (.int .u32 0) ∧ ds[34]? = some (.int .u32 0)
  mp : ∃ F n, MapIs w mm IsStr F n ∧ F (.string kV) = some (.agg #[.int .i32 0, .int .u32 0, .int .u32 0]) ∧ F (.string kP) = some (.agg #[.int .i32 0, .int .u32 0, .int .u32 1])
theorem OS.kept {w w' : World} {p S mm f0 f1 : Nat} {un : Int} (h : OS w p S mm un f0 f1) (hk : ∀ j, j = p ∨ j = S ∨ j = mm → w'.heap[j]? = w.heap[j]?) : OS w' p S mm un f0 f1 := by
  obtain ⟨⟨cs, h1, h2⟩, ⟨ds, h3, h4⟩, ⟨F, n, h5, h6⟩⟩ := h
  exact ⟨⟨cs, (hk p (.inl rfl)).trans h1, h2⟩, ⟨ds, (hk S (.inr (.inl rfl))).trans h3, h4⟩, ⟨F, n, h5.kept (hk mm (.inr (.inr rfl))), h6⟩⟩
theorem OS.lts {w : World} {p S mm f0 f1 : Nat} {un : Int} (h : OS w p S mm un f0 f1) : p < w.heap.size ∧ S < w.heap.size ∧ mm < w.heap.size := by
  obtain ⟨⟨cs, h1, h2⟩, ⟨ds, h3, h4⟩, ⟨F, n, h5, h6⟩⟩ := h
  exact ⟨h1.lt, h3.lt, h5.lt⟩
theorem OS.below {w w' : World} {p S mm f0 f1 : Nat} {un : Int} (h : OS w p S mm un f0 f1) (hb : Below w.heap.size w w') : OS w' p S mm un f0 f1 := by
  obtain ⟨a, b, c⟩ := h.lts
  refine h.kept fun j hj => hb.block j ?_
  rcases hj with rfl | rfl | rfl <;> assumption
theorem OS.setRow {w : World} {p S mm f0 f1 b o : Nat} {un : Int} {cs : Array Value} {t : TypeId} {v : Value} (h : OS w p S mm un f0 f1) (hr : RowAt w b cs t) (h1 : t ≠ 184) (h2 : t ≠ 59) : OS (w.setCell ⟨b, o, none⟩ v) p S mm un f0 f1 := by
  refine h.kept fun j hj => Below.heap_setCell _ _ _ _ ?_
  obtain ⟨⟨qs, q1, q2⟩, ⟨ds, q3, q4⟩, ⟨F, n, q5, q6⟩⟩ := h
  rcases hj with rfl | rfl | rfl
  · exact q1.ne hr (fun e => h1 e.symm)
  · exact q3.ne hr (fun e => h2 e.symm)
  · intro e
    subst e
    obtain ⟨es, c, hm, _⟩ := q5
    unfold RowAt at hr
    rw [hm] at hr
    cases hr
/-- The count behind one more use of symbol k. -/
def inc (k i : Nat) (f : Nat) : Nat := if i = k then f + 1 else f
theorem OS.use {w : World} {p S mm f0 f1 k f : Nat} {un : Int} (h : OS w p S mm un f0 f1) (hk : k = 0 ∧ f = f0 ∨ k = 1 ∧ f = f1) : OS (w.setCell ⟨S, k * 10 + 4, none⟩ (.int .u32 ((f : Int) + 1))) p S mm un (inc k 0 f0) (inc k 1 f1) := by
  obtain ⟨⟨qs, q1, q2⟩, ⟨ds, q3, d0, d1, d2, d3⟩, ⟨F, n, q5, q6⟩⟩ := h
  have hz : 34 < ds.size := (Array.getElem?_eq_some_iff.1 d3).1
  refine ⟨⟨qs, q1.set_other (q1.ne q3 (by decide)) _ _, q2⟩, ⟨_, q3.set _ _, ?_⟩, ⟨F, n, q5.setOther ?_ _, q6⟩⟩
  · rcases hk with ⟨rfl, rfl⟩ | ⟨rfl, rfl⟩
    · exact ⟨set_eq (by omega), set_ne (by decide) d1, set_ne (by decide) d2, set_ne (by decide) d3⟩
    · exact ⟨set_ne (by decide) d0, set_eq (by omega), set_ne (by decide) d2, set_ne (by decide) d3⟩
  · intro e
    subst e
    obtain ⟨es, c, hm, _⟩ := q5
    unfold RowAt at q3
    rw [hm] at q3
    cases q3

def Rec36o (p S mm : Nat) (un : Int) (f0 f1 k : Nat) (w : World) (e : Ending) (w' : World) : Prop := e = .returned (.tuple #[]) ∧ OS w' p S mm un (inc k 0 f0) (inc k 1 f1) ∧ Fr (XS S) w w'
theorem rec36o (p S mm : Nat) (un : Int) (f0 f1 k f : Nat) (w : World) (hk : k = 0 ∧ f = f0 ∨ k = 1 ∧ f = f1) (hf : f ≤ 1048576) (h : OS w p S mm un f0 f1) :
    Calls Tryd.prog 36 #[.pointer (some ⟨p, 0, none⟩), .agg #[.int .u32 0, .int .u32 k]] w (Rec36o p S mm un f0 f1 k w) := by
  obtain ⟨⟨cs, rp, pc⟩, ⟨ds, rs, d0, d1, d2, d3⟩, _⟩ := id h
  have hd : ds[k * 10 + 4]? = some (.int .u32 f) := by
    rcases hk with ⟨rfl, rfl⟩ | ⟨rfl, rfl⟩
    · exact d0
    · exact d1
  have hk4 : k < 4 := by omega
  have c350 := rp.cellv pc.c350
  have c106 := rp.cellv pc.c106
  have c105 := rp.cellv pc.c105
  have c32 := rp.cellv pc.c32
  have d4 := rs.cellv hd
  have fd := rs.frozen (k * 10 + 4)
  have zp := rp.lt
  have zs := rs.lt
  have nps : p ≠ S := rp.ne rs (by decide)
  have HH := Lib.hid h
  have HK := Lib.hid hk
  clear rp pc rs d0 d1 d2 d3 hd h hk
  go_enter Tryd.func36, Tryd.ntmps36
  go_wp2_with fail
  go_region
  go_wp2_with fail
  go_end0
  refine ⟨rfl, (HH.out.use HK.out).below ((Below.refl _ _).alloc (Nat.le_refl _) _).drew, ?_⟩
  exact (((Fr.refl (X := XS S) (w := w)).set (.inl rfl)).alloc _).drew

end Go.Proofs.YtfmfniddnlpkmaaDoor
