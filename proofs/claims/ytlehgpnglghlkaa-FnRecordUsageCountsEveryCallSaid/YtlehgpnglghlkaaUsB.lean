import Derived.Test.YtlehgpnglghlkaaKit
import Derived.Test.YtlehgpnglghlkaaUsA
import Derived.Test.YtlehgpnglghlkaaBig
namespace Go.Proofs.Ytlehgpnglghlkaa
open Go.ChangeShapes Go.WideShapes Go.ChangeAt Go.RowKit
set_option linter.unusedVariables false
set_option maxRecDepth 100000
set_option maxHeartbeats 2000000

theorem keyR : KeysLike Try.prog 37 IsPair := keys_pair Try.underlying37 Try.underlying24 Try.underlying24 (by decide +kernel) (by decide +kernel) rfl rfl (by kernel_rfl)
theorem zero41 (w : World) : (zeroValue 41).run Try.prog w = .ok (.agg #[.int .u32 0]) w := by kernel_rfl

def refV (k : Nat) : Value := .agg #[.int .u32 0, .int .u32 k]

theorem refV_pair (k : Nat) : IsPair (refV k) := ⟨_, _, rfl⟩

/-- One more, as uint32 counts. -/
def inc (x : Int) : Int := (x + 1) % 4294967296

section
variable {w w' : World} {p S T q m n : Nat} {dead ts part : Bool} {f g : Nat → Int} {F : Value → Option Value} {cnt : Nat}
theorem St.setT {k : Nat} {x : Int} (h : St w p S T q m n dead true part f g F cnt) (hk : k < n) : St (w.setCell ⟨T, k, none⟩ (.int .u32 x)) p S T q m n dead true part f (updN g k x) F cnt := by
  obtain ⟨⟨cs, h1⟩, h2, h3, h4⟩ := h
  have ⟨ds, t1, _⟩ := h3 rfl
  have ⟨es, s1, _⟩ := h2
  have b : ∀ j, j ≠ T → (w.setCell ⟨T, k, none⟩ (.int .u32 x)).heap[j]? = w.heap[j]? := fun j hj => Below.heap_setCell _ _ _ _ hj
  refine ⟨⟨cs, h1.row.kept (b _ (h1.row.ne t1 (by decide))), h1.sym, h1.tsc, h1.dead, h1.ts, h1.part⟩, h2.kept (b _ (s1.ne t1 (by decide))), fun _ => ?_, fun e => ?_⟩
  · refine ((h3 rfl).set k (.int .u32 x)).congr fun i hi => ?_
    unfold upd updN
    by_cases e : i = k
    · rw [if_pos e, if_pos e]
    · rw [if_neg e, if_neg e]
  · obtain ⟨⟨us, h5, h6⟩, h7⟩ := h4 e
    exact ⟨⟨us, h5.kept (b _ (h5.ne t1 (by decide))), h6⟩, h7.kept (b _ (fun e => t1.neMap h7 e.symm))⟩

theorem St.setS {k : Nat} {x : Int} (h : St w p S T q m n dead ts part f g F cnt) (hk : k < n) : St (w.setCell ⟨S, k * 10 + 4, none⟩ (.int .u32 x)) p S T q m n dead ts part (updN f k x) g F cnt := by
  obtain ⟨⟨cs, h1⟩, h2, h3, h4⟩ := h
  have ⟨es, s1, _⟩ := h2
  have b : ∀ j, j ≠ S → (w.setCell ⟨S, k * 10 + 4, none⟩ (.int .u32 x)).heap[j]? = w.heap[j]? := fun j hj => Below.heap_setCell _ _ _ _ hj
  refine ⟨⟨cs, h1.row.kept (b _ (h1.row.ne s1 (by decide))), h1.sym, h1.tsc, h1.dead, h1.ts, h1.part⟩, h2.set x hk, fun e => ?_, fun e => ?_⟩
  · have ⟨ds, t1, _⟩ := h3 e
    exact (h3 e).kept (b _ (t1.ne s1 (by decide)))
  · obtain ⟨⟨us, h5, h6⟩, h7⟩ := h4 e
    exact ⟨⟨us, h5.kept (b _ (h5.ne s1 (by decide))), h6⟩, h7.kept (b _ (fun e => s1.neMap h7 e.symm))⟩

theorem St.turn {F' : Value → Option Value} {cnt' : Nat} (h : St w p S T q m n dead ts true f g F cnt) (ht : Turned m w w') (hm : MapIs w' m IsPair F' cnt') : St w' p S T q m n dead ts true f g F' cnt' := by
  obtain ⟨⟨cs, h1⟩, h2, h3, h4⟩ := h
  obtain ⟨⟨us, h5, h6⟩, h7⟩ := h4 rfl
  have ⟨es, s1, _⟩ := h2
  refine ⟨⟨cs, h1.row.kept (ht.block _ (h1.row.neMap h7)), h1.sym, h1.tsc, h1.dead, h1.ts, h1.part⟩, h2.kept (ht.block _ (s1.neMap h7)), fun e => ?_, fun e => ?_⟩
  · have ⟨ds, t1, _⟩ := h3 e
    exact (h3 e).kept (ht.block _ (t1.neMap h7))
  · exact ⟨⟨us, h5.kept (ht.block _ (h5.neMap h7)), h6⟩, hm⟩
end

/-- Behind the first half of recordUsage. -/
def Mid (w wx : World) (p S T q m n k : Nat) (dead ts part : Bool) (f g : Nat → Int) (F : Value → Option Value) (cnt : Nat) : Prop :=
  St wx p S T q m n dead ts part (if dead then f else updN f k (inc (f k))) g F cnt ∧ Fr (XX S T m) w wx ∧ RowAt wx w.heap.size #[.int .u32 0, .int .u32 k] 37

theorem row37_ne {w wx : World} {p S T q m n k : Nat} {dead ts part : Bool} {f g : Nat → Int} {F : Value → Option Value} {cnt : Nat} (h : Mid w wx p S T q m n k dead ts part f g F cnt) (e : ts = true) : w.heap.size ≠ T := by
  obtain ⟨⟨_, _, h3, _⟩, _, r⟩ := h
  obtain ⟨ds, t1, _⟩ := h3 e
  exact r.ne t1 (by decide)

/-- What recordUsage leaves: the state, with the new counts, and the map as the caller asks for. -/
def Rec (w : World) (p S T q m n k : Nat) (dead ts part : Bool) (f g : Nat → Int) (F' : Value → Option Value) (cnt' : Nat) (e : Ending) (w' : World) : Prop :=
  e = .returned (.tuple #[]) ∧ St w' p S T q m n dead ts part (if dead then f else updN f k (inc (f k))) (if ts then updN g k (inc (g k)) else g) F' cnt' ∧ Fr (XX S T m) w w'

theorem rec_dead_no (p S T q m n k : Nat) (part : Bool) (f g : Nat → Int) (F : Value → Option Value) (cnt : Nat) (w : World) (hk : k < n) (h : St w p S T q m n true false part f g F cnt) :
    Calls Try.prog 29 #[.pointer (some ⟨p, 0, none⟩), refV k] w (Rec w p S T q m n k true false part f g F cnt) := by
  obtain ⟨⟨cs, h1⟩, h2, h3, h4⟩ := id h
  have c1 := h1.row.cellv h1.dead
  have c2 := h1.row.cellv h1.ts
  have z1 : p < w.heap.size := h1.row.lt
  unfold refV
  have H := Lib.hid h
  clear h h1 h2 h3 h4
  go_enter Try.func29, Try.ntmps29
  go_wp2_with fail
  go_end0
  exact ⟨rfl, H.out.later (fun j hj => Below.heap_alloc _ _ _ hj), Fr.refl.alloc _⟩

theorem rec_dead_ts (p S T q m n k : Nat) (part : Bool) (f g : Nat → Int) (F : Value → Option Value) (cnt : Nat) (w : World) (hk : k < n) (hn : n ≤ 65536) (h : St w p S T q m n true true part f g F cnt) :
    Calls Try.prog 29 #[.pointer (some ⟨p, 0, none⟩), refV k] w (Rec w p S T q m n k true true part f g F cnt) := by
  obtain ⟨⟨cs, h1⟩, h2, h3, h4⟩ := id h
  have c1 := h1.row.cellv h1.dead
  have c2 := h1.row.cellv h1.ts
  have c3 := h1.row.cellv (h1.tsc rfl)
  have c4 := (h3 rfl).cell hk
  have f4 := (h3 rfl).frozen k
  have z1 : p < w.heap.size := h1.row.lt
  have z3 : T < w.heap.size := (h3 rfl).lt
  unfold refV
  have H := Lib.hid h
  clear h h1 h2 h3 h4
  go_enter Try.func29, Try.ntmps29
  go_wp2_with fail
  go_region
  go_wp2_with fail
  go_end0
  exact ⟨rfl, (H.out.setT hk).later (fun j hj => Below.heap_alloc _ _ _ hj), ((Fr.refl.set (.inl (.inr (.inl rfl)))).alloc _).drew⟩

theorem rec_live_none_no (p S T q m n k : Nat) (f g : Nat → Int) (F : Value → Option Value) (cnt : Nat) (w : World) (hk : k < n) (hn : n ≤ 65536) (h : St w p S T q m n false false false f g F cnt) :
    Calls Try.prog 29 #[.pointer (some ⟨p, 0, none⟩), refV k] w (Rec w p S T q m n k false false false f g F cnt) := by
  obtain ⟨⟨cs, h1⟩, h2, h3, h4⟩ := id h
  have c1 := h1.row.cellv h1.dead
  have c2 := h1.row.cellv h1.ts
  have c3 := h1.row.cellv h1.sym
  have c5 := h1.row.cellv h1.part
  simp only [Bool.false_eq_true, if_false] at c5
  have c4 := h2.cell hk
  have f4 := h2.frozen (k * 10 + 4)
  have z1 : p < w.heap.size := h1.row.lt
  have z3 : S < w.heap.size := h2.lt
  have ne : p ≠ S := by obtain ⟨es, s1, _⟩ := h2; exact h1.row.ne s1 (by decide)
  unfold refV
  have H := Lib.hid h
  clear h h1 h2 h3 h4
  go_enter Try.func29, Try.ntmps29
  go_wp2_with fail
  go_region
  go_wp2_with fail
  go_end0
  exact ⟨rfl, (H.out.setS hk).later (fun j hj => Below.heap_alloc _ _ _ hj), ((Fr.refl.set (.inl (.inl rfl))).alloc _).drew⟩

end Go.Proofs.Ytlehgpnglghlkaa
