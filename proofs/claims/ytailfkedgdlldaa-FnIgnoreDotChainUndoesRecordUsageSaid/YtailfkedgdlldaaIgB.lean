import Derived.Test.YtailfkedgdlldaaKit
import Derived.Test.YtailfkedgdlldaaIgA
import Derived.Test.YtailfkedgdlldaaAs
namespace Go.Proofs.Ytailfkedgdlldaa
open Go.ChangeShapes Go.WideShapes Go.ChangeAt Go.RowKit
set_option linter.unusedVariables false
set_option maxRecDepth 100000
set_option maxHeartbeats 2000000

theorem info70 : (Try.prog.info? 70).map (fun i => (i.zero, i.size, i.bytes)) = some (some (.agg #[.pointer none, .string ⟨#[]⟩, .int .u32 0, .int .u32 0, .int .u32 0, .int .u32 0, .int .u32 0, .int .u16 0, .int .u8 0, .int .u8 0]), 10, 48) := by kernel_rfl

theorem syms_made {w : World} {B R n : Nat} (h : w.ownsRow B 70 10 (.slice (some ⟨R, 0, none⟩) n n) n (madeCells (Value.agg #[.pointer none, .string ⟨#[]⟩, .int .u32 0, .int .u32 0, .int .u32 0, .int .u32 0, .int .u32 0, .int .u16 0, .int .u8 0, .int .u8 0]).cells (n * 10)).toList) : Syms w R n (fun _ => 0) := by
  obtain ⟨cs, h1, h2, h3⟩ := Cells.made h
  refine ⟨cs, h1, h2, fun i hi => ?_⟩
  rw [h3 (i * 10 + 4) (by omega)]
  simp [Value.cells, Nat.mul_add_mod]

theorem Syms.congr {w : World} {S n : Nat} {f g : Nat → Int} (h : Syms w S n f) (e : ∀ i, i < n → f i = g i) : Syms w S n g := by
  obtain ⟨cs, h1, h2, h3⟩ := h
  exact ⟨cs, h1, h2, fun i hi => by rw [h3 i hi, e i hi]⟩

theorem count14 (x : Addr) (n c : Nat) (z : List Int) (w : World) (hn : n ≤ 65536) (hcell : ∀ i, i < n → w.cell? (x.add i) = some (.int .u32 (z.getD i 0))) :
    Calls Try.prog 14 #[.slice (some x) n c] w fun e w' => e = .returned (.slice (some ⟨w.heap.size, 0, none⟩) n n) ∧ Syms w' w.heap.size n (fun i => z.getD i 0) ∧ Below w.heap.size w w' := by
  obtain ⟨i0, hi, hz0, hz1, hz2⟩ := info_parts info70
  have HC := Lib.hid hcell
  clear hcell
  go_enter Try.func14, Try.ntmps14
  go_wp2_with (at_make; refine wpList_make_full _ rfl _ _ 34 rfl w.heap.size 70 i0 _ 10 Try.underlying34 hi hz0 hz1 .i64 .i64 _ _ n rfl rfl rfl rfl (by rw [hz2]; omega) (by unfold maxLen; omega) (Nat.le_refl _) ?_)
  intro w1 hown hgrow
  have hS : Syms w1 w.heap.size n (fun i => if i < 0 then z.getD i 0 else 0) := (syms_made hown).congr fun i _ => by simp
  have hb1 : Below w.heap.size w w1 := (Below.refl _ _).grown hgrow (Nat.le_refl _) (fun k hk => by cases hk)
  have HS := Lib.hid hS
  clear hown hgrow hi hz0 hz1 hz2 i0 hS
  go_wp2_with fail
  go_loopw [4] (fun v4 wr => ∃ k : Nat, k ≤ n ∧ v4 = .int .i64 k ∧ Syms wr w.heap.size n (fun i => if i < k then z.getD i 0 else 0) ∧ Below w.heap.size w wr) (fun v4 _ => n - (intOf v4).toNat)
  case atStart => exact ⟨0, Nat.zero_le _, rfl, HS.out, hb1⟩
  case round =>
    obtain ⟨k, hk, rfl, hS, hb⟩ := hrel
    have HK := Lib.hid hS
    clear hS HS hb1
    by_cases hlt : k < n
    · have hc := later (HC.out k hlt) hb
      obtain ⟨v, hv⟩ : ∃ v, z.getD k 0 = v := ⟨_, rfl⟩
      rw [hv] at hc
      have c4 := HK.out.cell hlt
      have f4 := HK.out.frozen (k * 10 + 4)
      have HV := Lib.hid hv
      simp only [Nat.lt_irrefl, if_false] at c4
      clear hv
      have HN : Hid (Syms (wr.setCell ⟨w.heap.size, k * 10 + 4, none⟩ (.int .u32 v)) w.heap.size n (fun i => if i < k + 1 then z.getD i 0 else 0)) := (HK.out.set v hlt).congr fun i hi => by
        unfold updN
        by_cases e : i = k
        · subst e
          rw [if_pos rfl, if_pos (by omega), HV.out]
        · rw [if_neg e]
          show (if i < k then z.getD i 0 else 0) = _
          by_cases h : i < k
          · rw [if_pos h, if_pos (by omega)]
          · rw [if_neg h, if_neg (by omega)]
      go_wp2_with fail
      go_roundw
      case rel => exact ⟨k + 1, by omega, by go_num, HN.out, by go_grown⟩
      case measure => simp [intOf]; omega
    · obtain rfl : k = n := by omega
      go_wp2_with fail
      go_ret
      exact ⟨rfl, HK.out.congr fun i hi => if_pos hi, hb⟩

/-- A chain of n steps over the identifier of symbol k. -/
def Ch (w : World) (k : Nat) : Nat → Value → Prop
  | 0, d => ∃ b cs, d = .iface 206 (.pointer (some ⟨b, 0, none⟩)) ∧ RowAt w b cs 208 ∧ cs[0]? = some (.int .u32 0) ∧ cs[1]? = some (.int .u32 k)
  | n + 1, d => ∃ b cs d', ((d = .iface 209 (.pointer (some ⟨b, 0, none⟩)) ∧ RowAt w b cs 212) ∨ (d = .iface 213 (.pointer (some ⟨b, 0, none⟩)) ∧ RowAt w b cs 218 ∧ ∃ s, cs[2]? = some (.iface 214 s))) ∧ cs[0]? = some d' ∧ cs[1]? = some (.int .i32 0) ∧ Ch w k n d'

theorem Ch.kept {w w' : World} {k : Nat} (hk : ∀ j cs t, RowAt w j cs t → (t = 208 ∨ t = 212 ∨ t = 218) → w'.heap[j]? = w.heap[j]?) : ∀ {n : Nat} {d : Value}, Ch w k n d → Ch w' k n d
  | 0, d, h => by
    obtain ⟨b, cs, e, hr, h0, h1⟩ := h
    exact ⟨b, cs, e, hr.kept (hk b cs 208 hr (.inl rfl)), h0, h1⟩
  | n + 1, d, h => by
    obtain ⟨b, cs, d', hd, h0, h1, h2⟩ := h
    refine ⟨b, cs, d', ?_, h0, h1, Ch.kept hk h2⟩
    rcases hd with ⟨e, hr⟩ | ⟨e, hr, hs⟩
    · exact .inl ⟨e, hr.kept (hk b cs 212 hr (.inr (.inl rfl)))⟩
    · exact .inr ⟨e, hr.kept (hk b cs 218 hr (.inr (.inr rfl))), hs⟩
theorem Ch.later {w w' : World} {k n : Nat} {d : Value} (h : Ch w k n d) (hk : ∀ j, j < w.heap.size → w'.heap[j]? = w.heap[j]?) : Ch w' k n d := h.kept fun j cs t hr _ => hk j hr.lt
theorem Ch.one {w : World} {k : Nat} : ∀ {n : Nat} {d : Value}, Ch w k n d → ∃ T b, d = .iface T (.pointer (some ⟨b, 0, none⟩))
  | 0, d, h => by obtain ⟨b, cs, e, _⟩ := h; exact ⟨_, _, e⟩
  | n + 1, d, h => by
    obtain ⟨b, cs, d', hd, _⟩ := h
    rcases hd with ⟨e, _⟩ | ⟨e, _⟩
    · exact ⟨_, _, e⟩
    · exact ⟨_, _, e⟩

theorem ident16 (k : Nat) (w : World) : Calls Try.prog 16 #[refV k] w fun e w' => ∃ d, e = .returned (.agg #[d, .int .i32 0]) ∧ Ch w' k 0 d ∧ Below w.heap.size w w' := by
  unfold refV
  go_enter Try.func16, Try.ntmps16
  go_wp2
  go_returns
  exact ⟨_, rfl, ⟨_, _, rfl, RowAt.newAt (by go_size), rfl, rfl⟩, by go_grown⟩

theorem dot17 (k n : Nat) (d : Value) (w : World) (h : Ch w k n d) : Calls Try.prog 17 #[.agg #[d, .int .i32 0]] w fun e w' => ∃ d', e = .returned (.agg #[d', .int .i32 0]) ∧ Ch w' k (n + 1) d' ∧ Below w.heap.size w w' := by
  obtain ⟨T, b, rfl⟩ := h.one
  have H := Lib.hid h
  clear h
  go_enter Try.func17, Try.ntmps17
  go_wp2
  go_returns
  exact ⟨_, rfl, ⟨_, _, _, .inl ⟨rfl, RowAt.newAt (by go_size)⟩, rfl, rfl, H.out.later fun j hj => Below.block (by go_grown) j hj⟩, by go_grown⟩

theorem idx18 (k n : Nat) (d : Value) (w : World) (h : Ch w k n d) : Calls Try.prog 18 #[.agg #[d, .int .i32 0]] w fun e w' => ∃ d', e = .returned (.agg #[d', .int .i32 0]) ∧ Ch w' k (n + 1) d' ∧ Below w.heap.size w w' := by
  obtain ⟨T, b, rfl⟩ := h.one
  have H := Lib.hid h
  clear h
  go_enter Try.func18, Try.ntmps18
  go_wp2
  go_returns
  exact ⟨_, rfl, ⟨_, _, _, .inr ⟨rfl, RowAt.newAt (by go_size), _, rfl⟩, rfl, rfl, H.out.later fun j hj => Below.block (by go_grown) j hj⟩, by go_grown⟩

end Go.Proofs.Ytailfkedgdlldaa
