import Derived.Test.YtpbajadomgdajaaDoorKit
import Derived.Test.YtpbajadomgdajaaDoorGnA
import Derived.Laws.OwnMore
import Derived.Laws.AppendOwn
import Derived.Laws.IdiomStrings
import Derived.Laws.RangeAny
import Derived.Lib.OthersKept
import Derived.Test.YtpbajadomgdajaaDoorRow
namespace Go.Proofs.YtpbajadomgdajaaDoor
open Go.ChangeShapes Go.WideShapes Go.ChangeAt Go.RowKit
set_option linter.unusedVariables false
set_option maxRecDepth 100000
set_option maxHeartbeats 2000000

theorem info5 : (Tryd.prog.info? 5).map (fun i => (i.zero, i.size, i.bytes)) = some (some (.int .u8 0), 1, 1) := by kernel_rfl
/-- The cells of these bytes. -/
def encB (l : List UInt8) : List Value := l.map fun b => .int .u8 (b.toNat : Int)
theorem encB_len (l : List UInt8) : (encB l).length = l.length := by simp [encB]
theorem new_cells (w : World) (cs : Array Value) (t : TypeId) (news : List Value) (h : cs.toList = news) : ∀ j u, news[j]? = some u → (w.alloc (.cells cs t)).cell? ((⟨w.heap.size, 0, none⟩ : Addr).add j) = some u := by
  intro j u hu
  rw [show (⟨w.heap.size, 0, none⟩ : Addr).add j = ⟨w.heap.size, j, none⟩ from by rw [addr_add, Nat.zero_add]]
  exact (RowAt.new w cs t).cellv (by subst h; simpa using hu)
/-- The slice that holds these bytes. -/
def Outs (B : Nat) (v : Value) (l : List UInt8) (W : World) : Prop := W.ownsRow B 5 1 v l.length (encB l)
theorem own_step {B m : Nat} {v' : Value} {l l' nb : List UInt8} {news : List Value} {w3 : World} (h : w3.ownsRow B 5 1 v' (l.length + m) (encB l ++ news)) (hl : l' = l ++ nb) (hm : nb.length = m) (hn : news = encB nb) : Outs B v' l' w3 := by
  unfold Outs
  rw [hl, List.length_append, hm, encB, List.map_append]
  subst hn
  exact h
theorem u8n (c : Nat) (h : c < 256) : (UInt8.ofNat c).toNat = c := by
  rw [show (UInt8.ofNat c).toNat = c % 256 from rfl]
  omega
theorem Outs.shape {B : Nat} {v : Value} {l : List UInt8} {W : World} (h : Outs B v l W) : ∃ base cap, v = .slice base l.length cap := by
  rcases h.2 with ⟨h1, h0⟩ | ⟨g, cap, _, rfl, _⟩
  · exact ⟨none, 0, by rw [h1, h0]⟩
  · exact ⟨_, cap, rfl⟩
theorem Outs.conv {W : World} {B : Nat} {base : Option Addr} {cap : Nat} {l : List UInt8} (h : Outs B (.slice base l.length cap) l W) (hl : l ≠ []) : (convert 27 9 (.slice base l.length cap)).run Tryd.prog W = .ok (.string ⟨l.toArray⟩) W := by
  have h0 := List.length_pos_iff.2 hl
  rcases h.2 with ⟨h1, h0'⟩ | ⟨g, cap', _, hv, _⟩
  · omega
  · cases hv
    exact run_convert_bytes_back (P := Tryd.prog) W 27 9 5 ⟨g, 0, none⟩ cap l Tryd.underlying27 Tryd.underlying5 Tryd.underlying9 (fun j hj => h.cells rfl j _ (by rw [encB, List.getElem?_map, List.getElem?_eq_getElem hj]; rfl))
/-- An iterator's block is not the row's. -/
theorem Outs.noIter {w : World} {B : Nat} {v : Value} {l : List UInt8} {k : Nat} {s : ByteArray} {pos : Nat} (h : Outs B v l w) (hk : w.heap[k]? = some (.stringIter s pos)) : some k ≠ v.ownBlock := by
  rcases h.2 with ⟨h1, _⟩ | ⟨g, cap, cur, h1, hb, hg, _⟩
  · rw [h1]; simp [Value.ownBlock]
  · rw [h1]
    intro e
    have e' : k = g := by simpa [Value.ownBlock] using e
    rw [e', hg] at hk
    cases hk
theorem Outs.iterAt {w : World} {B : Nat} {v : Value} {l : List UInt8} {k : Nat} {s : ByteArray} {pos : Nat} (h : Outs B v l w) (hk : w.heap[k]? = some (.stringIter s pos)) (pos' : Nat) : Outs B v l (w.iterAt k s pos') := by
  refine ⟨h.1, ?_⟩
  rcases h.2 with h1 | ⟨g, cap, cur, h1, hb, hg, hr⟩
  · exact .inl h1
  · refine .inr ⟨g, cap, cur, h1, hb, ?_, hr⟩
    have hne : g ≠ k := fun e => by rw [← e, hg] at hk; cases hk
    rw [Lib.iterAt_other _ _ _ _ _ hne]
    exact hg
theorem gap_len (s : Gs) : (gap s).length = s.1.length + (if s.2 then 1 else 0) := by
  unfold gap
  cases s.2 <;> simp
theorem gstep_len (s : Gs) (c : Nat) : (gap (gstep s c)).length ≤ (gap s).length + 1 := by
  unfold gstep
  split
  · simp [gap_len]
  · split
    · omega
    · simp only [gap_len]
      split <;> simp <;> omega
theorem gfold_len (b : List UInt8) : ∀ i, i ≤ b.length → (gap (gfold (b.take i))).length ≤ i
  | 0, _ => by simp [gfold, gap]
  | i + 1, h => by
    rw [gfold_take b i (by omega)]
    have := gfold_len b i (by omega)
    have := gstep_len (gfold (b.take i)) (b[i]'(by omega)).toNat
    omega
theorem gap_ge (s : Gs) : s.1.length ≤ (gap s).length := by rw [gap_len]; omega
/-- One rune: as its first byte, or as what is no letter. -/
theorem gfold_rune (s : ByteArray) (i : Nat) (hi : i < s.size) : i + (Utf8.decode s i).2 ≤ s.size ∧ 1 ≤ (Utf8.decode s i).2 ∧ gfold (s.data.toList.take (i + (Utf8.decode s i).2)) = gstep (gfold (s.data.toList.take i)) (Utf8.decode s i).1 ∧ ((Utf8.decode s i).1 < 128 ∨ 128 ≤ (Utf8.decode s i).1) := by
  have hi' : i < s.data.toList.length := by rw [← Lib.size_eq]; exact hi
  have hb : s.data.toList[i]'hi' = s[i]'hi := by simp [ByteArray.getElem_eq_getElem_data]
  by_cases h : (s[i]'hi).toNat < 128
  · rw [decode_ascii s i hi h]
    exact ⟨by omega, Nat.le_refl _, by rw [gfold_take _ _ hi', hb], by omega⟩
  · have hd := decode_high s i hi (by omega)
    have hg : s.get! i = s[i]'hi := by
      have := get_at s i hi
      simpa using this
    have hall := dec_bytes s i hi (by rw [hg]; omega)
    have hle : i + (Utf8.decode s i).2 ≤ s.size := by
      have := (hall ((Utf8.decode s i).2 - 1) (by omega)).1
      omega
    refine ⟨hle, hd.2, ?_, by omega⟩
    rw [gfold_high s.data.toList i (Utf8.decode s i).2 hd.2 (by rw [← Lib.size_eq]; exact hle) (fun j hj h1 h2 => by
      have := (hall (j - i) (by omega)).2
      rw [show i + (j - i) = j by omega] at this
      have hjs : j < s.size := by rw [Lib.size_eq]; exact hj
      have e1 : s.get! j = s[j]'hjs := by
        have := get_at s j hjs
        simpa using this
      have e2 : s.data.toList[j]'hj = s[j]'hjs := by simp [ByteArray.getElem_eq_getElem_data]
      rw [e2, ← e1]; exact this)]
    obtain ⟨h1, h2⟩ := high_other _ hd.1
    rw [gstep_other _ _ h1 h2]
    rfl

end Go.Proofs.YtpbajadomgdajaaDoor
