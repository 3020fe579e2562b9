import Derived.Test.YtailfkedgdlldabKit
import Derived.Test.YtailfkedgdlldabRow
import Derived.Test.YtailfkedgdlldabAs
namespace Go.Proofs.Ytailfkedgdlldab.fnCaseBodyFallThroughTable
open Go.ChangeShapes Go.WideShapes Go.ChangeAt Go.RowKit
set_option linter.unusedVariables false
set_option maxRecDepth 100000
set_option maxHeartbeats 2000000

/-- The pointer types of the statements that jump, and of those that do nothing. -/
def jumpT : List Nat := [149, 152, 154, 158]
def idleT : List Nat := [161, 163]

/-- The data of a statement that ends a body: after k blocks, does control fall through? No block of X is looked at. -/
def SD (X : Nat → Prop) : Nat → World → Value → Bool → Prop
  | 0, _, d, t => ∃ T p, d = .iface T p ∧ ((t = false ∧ T ∈ jumpT) ∨ (t = true ∧ T ∈ idleT))
  | k + 1, w, d, t => ∃ b v, d = .iface 145 (.pointer (some ⟨b, 0, none⟩)) ∧ ¬ X b ∧ w.cell? ⟨b, 0, none⟩ = some v ∧
      ((∃ a c, v = .slice a 0 c ∧ t = true) ∨ ∃ a n c d', v = .slice (some a) (n + 1) c ∧ n < 4611686018427387904 ∧ ¬ X a.block ∧ w.cell? (a.add (n * 2)) = some d' ∧ SD X k w d' t)

/-- The same of a list of statements. -/
def FT (X : Nat → Prop) (k : Nat) (w : World) (v : Value) (t : Bool) : Prop :=
  (∃ a c, v = .slice a 0 c ∧ t = true) ∨ ∃ a n c d', v = .slice (some a) (n + 1) c ∧ n < 4611686018427387904 ∧ ¬ X a.block ∧ w.cell? (a.add (n * 2)) = some d' ∧ SD X k w d' t

theorem SD.kept {X : Nat → Prop} {w w' : World} (hk : ∀ b, ¬ X b → b < w.heap.size → w'.heap[b]? = w.heap[b]?) : ∀ {k : Nat} {d : Value} {t : Bool}, SD X k w d t → SD X k w' d t
  | 0, _, _, h => h
  | k + 1, d, t, h => by
    obtain ⟨b, v, e, hX, hc, h⟩ := h
    refine ⟨b, v, e, hX, by rw [World.cell?_of_block (w := w) (hk b hX (cell_lt hc))]; exact hc, ?_⟩
    rcases h with h | ⟨a, n, c, d', e2, hn, hX2, hc2, h⟩
    · exact .inl h
    · have hbl : (a.add (n * 2)).block = a.block := by unfold Addr.add; split <;> rfl
      exact .inr ⟨a, n, c, d', e2, hn, hX2, by rw [World.cell?_of_block (w := w) (hk _ (by rw [hbl]; exact hX2) (cell_lt hc2))]; exact hc2, SD.kept hk h⟩

theorem FT.kept {X : Nat → Prop} {w w' : World} (hk : ∀ b, ¬ X b → b < w.heap.size → w'.heap[b]? = w.heap[b]?) {k : Nat} {v : Value} {t : Bool} (h : FT X k w v t) : FT X k w' v t := by
  rcases h with h | ⟨a, n, c, d', e2, hn, hX2, hc2, h⟩
  · exact .inl h
  · have hbl : (a.add (n * 2)).block = a.block := by unfold Addr.add; split <;> rfl
    exact .inr ⟨a, n, c, d', e2, hn, hX2, by rw [World.cell?_of_block (w := w) (hk _ (by rw [hbl]; exact hX2) (cell_lt hc2))]; exact hc2, h.kept hk⟩

theorem SD.weaken {X Y : Nat → Prop} {w : World} (hs : ∀ b, Y b → X b) : ∀ {k : Nat} {d : Value} {t : Bool}, SD X k w d t → SD Y k w d t
  | 0, _, _, h => h
  | k + 1, d, t, h => by
    obtain ⟨b, v, e, hX, hc, h⟩ := h
    refine ⟨b, v, e, fun hy => hX (hs _ hy), hc, ?_⟩
    rcases h with h | ⟨a, n, c, d', e2, hn, hX2, hc2, h⟩
    · exact .inl h
    · exact .inr ⟨a, n, c, d', e2, hn, fun hy => hX2 (hs _ hy), hc2, SD.weaken hs h⟩

theorem SD.one {X : Nat → Prop} {w : World} : ∀ {k : Nat} {d : Value} {t : Bool}, SD X k w d t → d.oneCell' = true
  | 0, _, _, ⟨_, _, e, _⟩ => by rw [e]; rfl
  | _ + 1, _, _, ⟨_, _, e, _⟩ => by rw [e]; rfl

/-- The program's test. -/
theorem falls (X : Nat → Prop) (k0 : Nat) (v0 : Value) (t : Bool) (w : World) (h : FT X k0 w v0 t) :
    Calls Try.prog 60 #[v0] w fun e w' => e = .returned (.bool t) ∧ w = w' := by
  have H := Lib.hid h
  clear h
  go_enter Try.func60, Try.ntmps60
  go_wp2_with fail
  go_loopg [0, 3, 4] k0 (fun k v0 v3 v4 wr => FT X k w v0 t ∧ wr = w)
  case atStart => exact ⟨H.out, rfl⟩
  case round =>
    obtain ⟨hft, rfl⟩ := hrel
    clear H
    rcases hft with ⟨a, c, rfl, rfl⟩ | ⟨a, n, c, d', rfl, hn, hX, hc, hsd⟩
    · go_wp2
      go_ret
      exact ⟨rfl, rfl⟩
    · have hi0 : (0 : Int) ≤ (n : Int) := by omega
      cases gk with
      | zero =>
        obtain ⟨T, p, rfl, h⟩ := hsd
        rcases h with ⟨rfl, hT⟩ | ⟨rfl, hT⟩
        · simp only [jumpT, List.mem_cons, List.not_mem_nil, or_false] at hT
          rcases hT with rfl | rfl | rfl | rfl
          all_goals
            go_wp2
            go_ret
            exact ⟨rfl, rfl⟩
        · simp only [idleT, List.mem_cons, List.not_mem_nil, or_false] at hT
          rcases hT with rfl | rfl
          all_goals
            go_wp2
            go_ret
            exact ⟨rfl, rfl⟩
      | succ k =>
        obtain ⟨b, v, rfl, hXb, hcb, h⟩ := hsd
        have H := Lib.hid h
        clear h
        go_wp2
        go_roundg k
        case measure => omega
        case rel => exact ⟨H.out, rfl⟩

theorem info75 : (Try.prog.info? 75).map (fun i => (i.zero, i.size, i.bytes)) = some (some (.agg #[.nilIface, .int .i32 0]), 2, 24) := by kernel_rfl

/-- A block of statements. -/
theorem block (a : Option Addr) (n c : Nat) (w : World) : Calls Try.prog 32 #[.slice a n c] w fun e w' => ∃ b, e = .returned (.agg #[.iface 145 (.pointer (some ⟨b, 0, none⟩)), .int .i32 0]) ∧ w.heap.size < b ∧ w'.cell? ⟨b, 0, none⟩ = some (.slice a n c) ∧ Below w.heap.size w w' := by
  go_enter Try.func32, Try.ntmps32
  go_wp2
  go_returns
  exact ⟨_, rfl, by omega, by go_simp, by go_grown⟩

/-- Does control fall through a statement of this code? -/
def through (z : Int) : Bool := !(z % 8 == 1 || z % 8 == 2 || z % 8 == 3 || z % 8 == 4 || z % 8 == 6)

theorem stmt (z : Int) (w : World) (h0 : 0 ≤ z) (h1 : z ≤ 255) : Calls Try.prog 59 #[.int .u8 z] w fun e w' => ∃ d k, e = .returned (.agg #[d, .int .i32 0]) ∧ SD (fun b => b < w.heap.size) k w' d (through z) ∧ Below w.heap.size w w' := by
  have hr : z % 8 = 0 ∨ z % 8 = 5 ∨ z % 8 = 1 ∨ z % 8 = 2 ∨ z % 8 = 3 ∨ z % 8 = 4 ∨ z % 8 = 6 ∨ z % 8 = 7 := by omega
  obtain ⟨t, ht⟩ : ∃ t, through z = t := ⟨_, rfl⟩
  rw [ht]
  rcases hr with hr | hr | hr | hr | hr | hr | hr | hr
  iterate 2
    · simp [through, hr] at ht
      subst ht
      go_enter Try.func59, Try.ntmps59
      go_wp2
      go_returns
      exact ⟨_, 0, rfl, ⟨_, _, rfl, .inr ⟨rfl, by decide⟩⟩, by go_grown⟩
  iterate 4
    · simp [through, hr] at ht
      subst ht
      go_enter Try.func59, Try.ntmps59
      go_wp2
      go_returns
      exact ⟨_, 0, rfl, ⟨_, _, rfl, .inl ⟨rfl, by decide⟩⟩, by go_grown⟩
  · simp [through, hr] at ht
    subst ht
    go_enter Try.func59, Try.ntmps59
    go_wp2
    go_returns
    refine ⟨_, 1, rfl, ⟨_, .slice (some ⟨w.heap.size + 1 + 1 + 1, 0, none⟩) 1 1, rfl, ?_, by go_simp, .inr ⟨⟨w.heap.size + 1 + 1 + 1, 0, none⟩, 0, 1, .iface 149 (.pointer (some ⟨w.heap.size + 1 + 1, 0, none⟩)), rfl, by omega, ?_, by go_simp, ⟨_, _, rfl, .inl ⟨rfl, by decide⟩⟩⟩⟩, by go_grown⟩
    · show ¬ (_ < _)
      omega
    · show ¬ (_ < _)
      show ¬ (w.heap.size + 1 + 1 + 1 < w.heap.size)
      omega
  · simp [through, hr] at ht
    subst ht
    go_enter Try.func59, Try.ntmps59
    go_wp2
    go_returns
    refine ⟨_, 1, rfl, ⟨_, .slice none 0 0, rfl, ?_, by go_simp, .inl ⟨_, _, rfl, rfl⟩⟩, by go_grown⟩
    show ¬ (_ < _)
    omega

end Go.Proofs.Ytailfkedgdlldab.fnCaseBodyFallThroughTable
