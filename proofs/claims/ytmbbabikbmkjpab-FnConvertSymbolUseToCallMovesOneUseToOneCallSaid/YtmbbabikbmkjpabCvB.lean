import Derived.Test.YtmbbabikbmkjpabKit
import Derived.Test.YtmbbabikbmkjpabCvA
namespace Go.Proofs.Ytmbbabikbmkjpab.fnConvertSymbolUseToCallMovesOneUseToOneCall
open Go.ChangeShapes Go.WideShapes Go.ChangeAt Go.RowKit
set_option linter.unusedVariables false
set_option maxRecDepth 100000
set_option maxHeartbeats 2000000

/-- The cells of the part: its use map, its call map. -/
def partC (m : Nat) (g : Option Nat) : Array Value := #[.slice none 0 0, .slice none 0 0, .slice none 0 0, .slice none 0 0, .map (some m), .map g, .map none, .slice none 0 0, .bool false, .bool false, .bool false]
def refP (s i : Int) : Value := .agg #[.int .u32 s, .int .u32 i]
theorem refP_pair (s i : Int) : IsPair (refP s i) := ⟨_, _, rfl⟩

/-- What the conversion leaves. -/
def Cvd (w : World) (q m : Nat) (F' : Value → Option Value) (n' : Nat) (Y : Nat → Prop) (G' : Value → Option Value) (k' : Nat) (e : Ending) (w' : World) : Prop :=
  e = .returned (.tuple #[]) ∧ ∃ m2, Y m2 ∧ RowAt w' q (partC m (some m2)) 56 ∧ MapIs w' m IsPair F' n' ∧ MapIs w' m2 IsPair G' k' ∧ Fr (fun j => j = q ∨ j = m ∨ j = m2) w w'

/-- Behind the use map's turn. -/
structure Half (w w3 : World) (p q m : Nat) (g : Option Nat) (F' : Value → Option Value) (n' : Nat) (s i : Int) : Prop where
  pc : w3.cell? ⟨p, 105, none⟩ = some (.pointer (some ⟨q, 0, none⟩))
  qr : RowAt w3 q (partC m g) 56
  mm : MapIs w3 m IsPair F' n'
  rb : RowAt w3 w.heap.size #[.int .u32 s, .int .u32 i] 41
  fr : Fr (fun j => j = m) w w3

theorem half {w w3 : World} {p q m n' : Nat} {g : Option Nat} {F' : Value → Option Value} {s i y : Int} (hp : w.cell? ⟨p, 105, none⟩ = some (.pointer (some ⟨q, 0, none⟩))) (hq : RowAt w q (partC m g) 56) (hlt : m < w.heap.size) (hpm : p ≠ m) (hqm : q ≠ m)
    (h1 : MapIs w3 m IsPair F' n') (h2 : Turned m ((w.alloc (.cells #[.int .u32 s, .int .u32 i] 41)).alloc (.cells #[.int .u32 y] 43)) w3) : Half w w3 p q m g F' n' s i := by
  have hpl : p < w.heap.size := cell_lt hp
  refine ⟨?_, h2.row ((hq.alloc _).alloc _) hqm, h1, h2.row ((RowAt.new _ _ _).alloc _) (by omega), Fr.turned ((Fr.refl.alloc _).alloc _) h2 (.inl rfl)⟩
  rw [h2.cell hpm]
  exact (later hp (by go_grown))

theorem conv_some (p q m m2 n n' k k' : Nat) (s i x y c d : Int) (single : Bool) (F F' G G' : Value → Option Value) (w : World) (hp : w.cell? ⟨p, 105, none⟩ = some (.pointer (some ⟨q, 0, none⟩))) (hq : RowAt w q (partC m (some m2)) 56)
    (hm : MapIs w m IsPair F n) (hm2 : MapIs w m2 IsPair G k) (hpm : p ≠ m) (hpm2 : p ≠ m2) (hne : m2 ≠ m) (hF : (F (refP s i)).getD (.agg #[.int .u32 0]) = .agg #[.int .u32 x]) (hG : (G (refP s i)).getD (.agg #[.int .u32 0, .int .u32 0]) = .agg #[.int .u32 c, .int .u32 d])
    (hy : (x - 1) % 4294967296 = y) (hF' : (if y = 0 then delF F (refP s i) else putF F (refP s i) (.agg #[.int .u32 y])) = F') (hn' : (if y = 0 then (if (F (refP s i)).isSome then n - 1 else n) else (if (F (refP s i)).isSome then n else n + 1)) = n')
    (hG' : putF G (refP s i) (.agg #[.int .u32 ((c + 1) % 4294967296), .int .u32 (if single then (d + 1) % 4294967296 else d)]) = G') (hk' : (if (G (refP s i)).isSome then k else k + 1) = k') :
    Calls Try.prog 21 #[.pointer (some ⟨p, 0, none⟩), .agg #[.int .u32 s, .int .u32 i], .bool single] w (Cvd w q m F' n' (fun j => j = m2) G' k') := by
  have hqm := hq.neMap hm
  have hqm2 := hq.neMap hm2
  have c4 := hq.cellv (j := 4) (v := .map (some m)) rfl
  have zp := cell_lt hp
  have zq := hq.lt
  have zm := hm.lt
  have l1 : (Instr.lookup 44 (.map (some m)) (.agg #[.int .u32 s, .int .u32 i]) false).run Try.prog (w.alloc (.cells #[.int .u32 s, .int .u32 i] 41)) = .ok (.agg #[.int .u32 x]) (w.alloc (.cells #[.int .u32 s, .int .u32 i] 41)) := by
    have := (hm.alloc (.cells #[.int .u32 s, .int .u32 i] 41)).look keyR Try.underlying44 (zero43 _) (refP_pair s i) false
    rw [lookRes_false, hF] at this
    exact this
  have HP := Lib.hid hp
  have HQ := Lib.hid hq
  have HM := Lib.hid hm
  have HM2 := Lib.hid hm2
  have HF := Lib.hid hF'
  have HN := Lib.hid hn'
  have HG0 := Lib.hid hG
  have HG := Lib.hid hG'
  have HK := Lib.hid hk'
  have HY := Lib.hid hy
  clear hq hm hm2 hF hF' hn' hG hG' hk' hy
  have hnil := fun (W : World) (r : Option Nat) => run_eql_map_nil W 45 41 47 r Try.underlying45
  go_enter Try.func21, Try.ntmps21
  by_cases hz : y = 0
  · as_aux_lemma =>
    have hy0 : (x - 1) % 4294967296 = 0 := by rw [HY.out]; exact hz
    have hnn := HN.out
    have hff := HF.out
    rw [if_pos hz] at hnn hff
    subst hff
    clear hz
    go_wp2_with (refine wpList_dropN rfl (.tmp 27) (.tmp 28) 44 41 rfl 41 43 keyR Try.underlying44 m n n' F rfl ((HM.out.alloc _).alloc _) (refP s i) rfl (refP_pair s i) hnn ?_)
    intro w3 h1 h2
    have H3 := half HP.out HQ.out zm hpm hqm h1 h2
    have hG3 : MapIs w3 m2 IsPair G k := h2.map ((HM2.out.alloc _).alloc _) hne
    have s3 := h2.size
    simp at s3
    have d0 := H3.pc
    have d1 := H3.qr.cellv (j := 5) (v := .map (some m2)) rfl
    have d2 := H3.rb.cellv (j := 0) (v := .int .u32 s) rfl
    have d3 := H3.rb.cellv (j := 1) (v := .int .u32 i) rfl
    have l2 : (Instr.lookup 45 (.map (some m2)) (.agg #[.int .u32 s, .int .u32 i]) false).run Try.prog w3 = .ok (.agg #[.int .u32 c, .int .u32 d]) w3 := by
      have := hG3.look keyR Try.underlying45 (zero47 _) (refP_pair s i) false
      rw [lookRes_false, HG0.out] at this
      exact this
    have y0 : p < w3.heap.size := by omega
    have y1 : q < w3.heap.size := by omega
    have y2 : w.heap.size < w3.heap.size := by omega
    have HH := Lib.hid H3
    have HG3 := Lib.hid hG3
    clear h1 h2 c4 l1 H3 hG3
    cases single
    all_goals
      go_wp2_with (at_mapUpdate; refine wpList_putN rfl (.tmp 61) (.tmp 62) (.tmp 63) 45 rfl 41 47 keyR Try.underlying45 m2 k k' G rfl (HG3.out.alloc _) (refP s i) _ rfl rfl (refP_pair s i) HK.out ?_)
      intro w4 h3 h4
      have r1 := h4.row (HH.out.qr.alloc _) hqm2
      have r2 := h4.map (HH.out.mm.alloc _) (fun e => hne e.symm)
      have r3 := Fr.turned ((HH.out.fr.mono (Y := fun j => j = q ∨ j = m ∨ j = m2) (fun j e => .inr (.inl e))).alloc _) h4 (.inl (.inr (.inr rfl)))
      have R := Lib.hid (And.intro r1 (And.intro r2 (And.intro h3 r3)))
      clear h3 h4 r1 r2 r3
      go_wp2_with fail
      go_end0
      exact ⟨rfl, m2, rfl, R.out.1, R.out.2.1, HG.out ▸ R.out.2.2.1, R.out.2.2.2⟩
  · as_aux_lemma =>
    have hy0 : ((x - 1) % 4294967296 == 0) = false := by rw [HY.out]; simpa using hz
    have hnn := HN.out
    have hff := HF.out
    rw [if_neg hz] at hnn hff
    subst hff
    clear hz
    go_wp2_with (at_mapUpdate; refine wpList_putN rfl (.tmp 29) (.tmp 30) (.tmp 31) 44 rfl 41 43 keyR Try.underlying44 m n n' F rfl ((HM.out.alloc _).alloc _) (refP s i) (.agg #[.int .u32 y]) rfl (by simp [Act.eval, HY.out]) (refP_pair s i) hnn ?_)
    intro w3 h1 h2
    have H3 := half HP.out HQ.out zm hpm hqm h1 h2
    have hG3 : MapIs w3 m2 IsPair G k := h2.map ((HM2.out.alloc _).alloc _) hne
    have s3 := h2.size
    simp at s3
    have d0 := H3.pc
    have d1 := H3.qr.cellv (j := 5) (v := .map (some m2)) rfl
    have d2 := H3.rb.cellv (j := 0) (v := .int .u32 s) rfl
    have d3 := H3.rb.cellv (j := 1) (v := .int .u32 i) rfl
    have l2 : (Instr.lookup 45 (.map (some m2)) (.agg #[.int .u32 s, .int .u32 i]) false).run Try.prog w3 = .ok (.agg #[.int .u32 c, .int .u32 d]) w3 := by
      have := hG3.look keyR Try.underlying45 (zero47 _) (refP_pair s i) false
      rw [lookRes_false, HG0.out] at this
      exact this
    have y0 : p < w3.heap.size := by omega
    have y1 : q < w3.heap.size := by omega
    have y2 : w.heap.size < w3.heap.size := by omega
    have HH := Lib.hid H3
    have HG3 := Lib.hid hG3
    clear h1 h2 c4 l1 H3 hG3
    cases single
    all_goals
      go_wp2_with (at_mapUpdate; refine wpList_putN rfl (.tmp 61) (.tmp 62) (.tmp 63) 45 rfl 41 47 keyR Try.underlying45 m2 k k' G rfl (HG3.out.alloc _) (refP s i) _ rfl rfl (refP_pair s i) HK.out ?_)
      intro w4 h3 h4
      have r1 := h4.row (HH.out.qr.alloc _) hqm2
      have r2 := h4.map (HH.out.mm.alloc _) (fun e => hne e.symm)
      have r3 := Fr.turned ((HH.out.fr.mono (Y := fun j => j = q ∨ j = m ∨ j = m2) (fun j e => .inr (.inl e))).alloc _) h4 (.inl (.inr (.inr rfl)))
      have R := Lib.hid (And.intro r1 (And.intro r2 (And.intro h3 r3)))
      clear h3 h4 r1 r2 r3
      go_wp2_with fail
      go_end0
      exact ⟨rfl, m2, rfl, R.out.1, R.out.2.1, HG.out ▸ R.out.2.2.1, R.out.2.2.2⟩

theorem conv_nil (p q m n n' : Nat) (s i x y : Int) (single : Bool) (F F' G' : Value → Option Value) (w : World) (hp : w.cell? ⟨p, 105, none⟩ = some (.pointer (some ⟨q, 0, none⟩))) (hq : RowAt w q (partC m none) 56)
    (hm : MapIs w m IsPair F n) (hpm : p ≠ m) (hF : (F (refP s i)).getD (.agg #[.int .u32 0]) = .agg #[.int .u32 x])
    (hy : (x - 1) % 4294967296 = y) (hF' : (if y = 0 then delF F (refP s i) else putF F (refP s i) (.agg #[.int .u32 y])) = F') (hn' : (if y = 0 then (if (F (refP s i)).isSome then n - 1 else n) else (if (F (refP s i)).isSome then n else n + 1)) = n')
    (hG' : putF (fun _ => none) (refP s i) (.agg #[.int .u32 1, .int .u32 (if single then 1 else 0)]) = G') :
    Calls Try.prog 21 #[.pointer (some ⟨p, 0, none⟩), .agg #[.int .u32 s, .int .u32 i], .bool single] w (Cvd w q m F' n' (fun j => w.heap.size ≤ j) G' 1) := by
  have hqm := hq.neMap hm
  have c4 := hq.cellv (j := 4) (v := .map (some m)) rfl
  have zp := cell_lt hp
  have zq := hq.lt
  have zm := hm.lt
  have l1 : (Instr.lookup 44 (.map (some m)) (.agg #[.int .u32 s, .int .u32 i]) false).run Try.prog (w.alloc (.cells #[.int .u32 s, .int .u32 i] 41)) = .ok (.agg #[.int .u32 x]) (w.alloc (.cells #[.int .u32 s, .int .u32 i] 41)) := by
    have := (hm.alloc (.cells #[.int .u32 s, .int .u32 i] 41)).look keyR Try.underlying44 (zero43 _) (refP_pair s i) false
    rw [lookRes_false, hF] at this
    exact this
  have HP := Lib.hid hp
  have HQ := Lib.hid hq
  have HM := Lib.hid hm
  have HF := Lib.hid hF'
  have HN := Lib.hid hn'
  have HG := Lib.hid hG'
  have HY := Lib.hid hy
  clear hq hm hF hF' hn' hG' hy
  have hnil := fun (W : World) (r : Option Nat) => run_eql_map_nil W 45 41 47 r Try.underlying45
  go_enter Try.func21, Try.ntmps21
  by_cases hz : y = 0
  · as_aux_lemma =>
    have hy0 : (x - 1) % 4294967296 = 0 := by rw [HY.out]; exact hz
    have hnn := HN.out
    have hff := HF.out
    rw [if_pos hz] at hnn hff
    subst hff
    clear hz
    go_wp2_with (refine wpList_dropN rfl (.tmp 27) (.tmp 28) 44 41 rfl 41 43 keyR Try.underlying44 m n n' F rfl ((HM.out.alloc _).alloc _) (refP s i) rfl (refP_pair s i) hnn ?_)
    intro w3 h1 h2
    have H3 := half HP.out HQ.out zm hpm hqm h1 h2
    have s3 := h2.size
    simp at s3
    have d0 := H3.pc
    have d1 := H3.qr.cellv (j := 5) (v := .map none) rfl
    have f1 := H3.qr.frozen 5
    have y0 : p < w3.heap.size := by omega
    have y1 : q < w3.heap.size := by omega
    have y2 : w.heap.size < w3.heap.size := by omega
    clear s3
    have Q5 : RowAt ((w3.setCell ⟨q, 5, none⟩ (.map (some w3.heap.size))).alloc (.map #[] 0)) q (partC m (some w3.heap.size)) 56 := RowAt.alloc (H3.qr.set 5 _) _
    have d2 : ((w3.setCell ⟨q, 5, none⟩ (.map (some w3.heap.size))).alloc (.map #[] 0)).cell? ⟨w.heap.size, 0, none⟩ = some (.int .u32 s) := RowAt.cellv (cs := #[.int .u32 s, .int .u32 i]) (t := 41) ((H3.rb.set_other (by omega) _ _).alloc _) rfl
    have d3 : ((w3.setCell ⟨q, 5, none⟩ (.map (some w3.heap.size))).alloc (.map #[] 0)).cell? ⟨w.heap.size, 1, none⟩ = some (.int .u32 i) := RowAt.cellv (cs := #[.int .u32 s, .int .u32 i]) (t := 41) ((H3.rb.set_other (by omega) _ _).alloc _) rfl
    have M5 : MapIs ((w3.setCell ⟨q, 5, none⟩ (.map (some w3.heap.size))).alloc (.map #[] 0)) m IsPair _ n' := (H3.mm.setOther (fun e => hqm e.symm) _).alloc _
    have G5 : MapIs ((w3.setCell ⟨q, 5, none⟩ (.map (some w3.heap.size))).alloc (.map #[] 0)) w3.heap.size IsPair (fun _ => none) 0 := MapIs.newAt IsPair (by simp)
    have F5 : Fr (fun j => j = q ∨ j = m ∨ j = w3.heap.size) w ((w3.setCell ⟨q, 5, none⟩ (.map (some w3.heap.size))).alloc (.map #[] 0)) := ((H3.fr.mono (fun j e => .inr (.inl e))).set (.inl (.inl rfl))).alloc _
    obtain ⟨m2, hm2⟩ : ∃ m2, w3.heap.size = m2 := ⟨_, rfl⟩
    have hqm2 : q ≠ m2 := by omega
    have hmm2 : m ≠ m2 := by omega
    have hm2w : w.heap.size ≤ m2 := by omega
    have hmm := @run_makeMap Try.prog
    have HM2 := Lib.hid hm2
    clear h1 h2 c4 l1 H3 hm2
    go_upto_region 11 with (fail)
    have hm2 := HM2.out
    rw [hm2] at Q5 d2 d3 M5 G5 F5 ⊢
    generalize hW : (w3.setCell ⟨q, 5, none⟩ (.map (some m2))).alloc (.map #[] 0) = W at Q5 d2 d3 M5 G5 F5 ⊢
    have sW : w3.heap.size + 1 = W.heap.size := by rw [← hW]; simp
    clear hW d0 d1 f1
    have l2 : (Instr.lookup 45 (.map (some m2)) (.agg #[.int .u32 s, .int .u32 i]) false).run Try.prog W = .ok (.agg #[.int .u32 0, .int .u32 0]) W := by
      have := G5.look keyR Try.underlying45 (zero47 _) (refP_pair s i) false
      rw [lookRes_false] at this
      exact this
    have y3 : w.heap.size < W.heap.size := by omega
    have R5 := Lib.hid (And.intro Q5 (And.intro M5 (And.intro G5 F5)))
    clear Q5 M5 G5 F5 sW hm2
    cases single
    all_goals
      go_wp2_with (at_mapUpdate; refine wpList_putN rfl (.tmp 61) (.tmp 62) (.tmp 63) 45 rfl 41 47 keyR Try.underlying45 m2 0 1 (fun _ => none) rfl (R5.out.2.2.1.alloc _) (refP s i) _ rfl rfl (refP_pair s i) rfl ?_)
      intro w4 h3 h4
      have r1 := h4.row (R5.out.1.alloc _) hqm2
      have r2 := h4.map (R5.out.2.1.alloc _) hmm2
      have r3 := Fr.turned (R5.out.2.2.2.alloc _) h4 (.inl (.inr (.inr rfl)))
      have R := Lib.hid (And.intro r1 (And.intro r2 (And.intro h3 r3)))
      clear h3 h4 r1 r2 r3
      go_wp2_with fail
      go_end0
      exact ⟨rfl, m2, hm2w, R.out.1, R.out.2.1, HG.out ▸ R.out.2.2.1, R.out.2.2.2⟩
  · as_aux_lemma =>
    have hy0 : ((x - 1) % 4294967296 == 0) = false := by rw [HY.out]; simpa using hz
    have hnn := HN.out
    have hff := HF.out
    rw [if_neg hz] at hnn hff
    subst hff
    clear hz
    go_wp2_with (at_mapUpdate; refine wpList_putN rfl (.tmp 29) (.tmp 30) (.tmp 31) 44 rfl 41 43 keyR Try.underlying44 m n n' F rfl ((HM.out.alloc _).alloc _) (refP s i) (.agg #[.int .u32 y]) rfl (by simp [Act.eval, HY.out]) (refP_pair s i) hnn ?_)
    intro w3 h1 h2
    have H3 := half HP.out HQ.out zm hpm hqm h1 h2
    have s3 := h2.size
    simp at s3
    have d0 := H3.pc
    have d1 := H3.qr.cellv (j := 5) (v := .map none) rfl
    have f1 := H3.qr.frozen 5
    have y0 : p < w3.heap.size := by omega
    have y1 : q < w3.heap.size := by omega
    have y2 : w.heap.size < w3.heap.size := by omega
    clear s3
    have Q5 : RowAt ((w3.setCell ⟨q, 5, none⟩ (.map (some w3.heap.size))).alloc (.map #[] 0)) q (partC m (some w3.heap.size)) 56 := RowAt.alloc (H3.qr.set 5 _) _
    have d2 : ((w3.setCell ⟨q, 5, none⟩ (.map (some w3.heap.size))).alloc (.map #[] 0)).cell? ⟨w.heap.size, 0, none⟩ = some (.int .u32 s) := RowAt.cellv (cs := #[.int .u32 s, .int .u32 i]) (t := 41) ((H3.rb.set_other (by omega) _ _).alloc _) rfl
    have d3 : ((w3.setCell ⟨q, 5, none⟩ (.map (some w3.heap.size))).alloc (.map #[] 0)).cell? ⟨w.heap.size, 1, none⟩ = some (.int .u32 i) := RowAt.cellv (cs := #[.int .u32 s, .int .u32 i]) (t := 41) ((H3.rb.set_other (by omega) _ _).alloc _) rfl
    have M5 : MapIs ((w3.setCell ⟨q, 5, none⟩ (.map (some w3.heap.size))).alloc (.map #[] 0)) m IsPair _ n' := (H3.mm.setOther (fun e => hqm e.symm) _).alloc _
    have G5 : MapIs ((w3.setCell ⟨q, 5, none⟩ (.map (some w3.heap.size))).alloc (.map #[] 0)) w3.heap.size IsPair (fun _ => none) 0 := MapIs.newAt IsPair (by simp)
    have F5 : Fr (fun j => j = q ∨ j = m ∨ j = w3.heap.size) w ((w3.setCell ⟨q, 5, none⟩ (.map (some w3.heap.size))).alloc (.map #[] 0)) := ((H3.fr.mono (fun j e => .inr (.inl e))).set (.inl (.inl rfl))).alloc _
    obtain ⟨m2, hm2⟩ : ∃ m2, w3.heap.size = m2 := ⟨_, rfl⟩
    have hqm2 : q ≠ m2 := by omega
    have hmm2 : m ≠ m2 := by omega
    have hm2w : w.heap.size ≤ m2 := by omega
    have hmm := @run_makeMap Try.prog
    have HM2 := Lib.hid hm2
    clear h1 h2 c4 l1 H3 hm2
    go_upto_region 11 with (fail)
    have hm2 := HM2.out
    rw [hm2] at Q5 d2 d3 M5 G5 F5 ⊢
    generalize hW : (w3.setCell ⟨q, 5, none⟩ (.map (some m2))).alloc (.map #[] 0) = W at Q5 d2 d3 M5 G5 F5 ⊢
    have sW : w3.heap.size + 1 = W.heap.size := by rw [← hW]; simp
    clear hW d0 d1 f1
    have l2 : (Instr.lookup 45 (.map (some m2)) (.agg #[.int .u32 s, .int .u32 i]) false).run Try.prog W = .ok (.agg #[.int .u32 0, .int .u32 0]) W := by
      have := G5.look keyR Try.underlying45 (zero47 _) (refP_pair s i) false
      rw [lookRes_false] at this
      exact this
    have y3 : w.heap.size < W.heap.size := by omega
    have R5 := Lib.hid (And.intro Q5 (And.intro M5 (And.intro G5 F5)))
    clear Q5 M5 G5 F5 sW hm2
    cases single
    all_goals
      go_wp2_with (at_mapUpdate; refine wpList_putN rfl (.tmp 61) (.tmp 62) (.tmp 63) 45 rfl 41 47 keyR Try.underlying45 m2 0 1 (fun _ => none) rfl (R5.out.2.2.1.alloc _) (refP s i) _ rfl rfl (refP_pair s i) rfl ?_)
      intro w4 h3 h4
      have r1 := h4.row (R5.out.1.alloc _) hqm2
      have r2 := h4.map (R5.out.2.1.alloc _) hmm2
      have r3 := Fr.turned (R5.out.2.2.2.alloc _) h4 (.inl (.inr (.inr rfl)))
      have R := Lib.hid (And.intro r1 (And.intro r2 (And.intro h3 r3)))
      clear h3 h4 r1 r2 r3
      go_wp2_with fail
      go_end0
      exact ⟨rfl, m2, hm2w, R.out.1, R.out.2.1, HG.out ▸ R.out.2.2.1, R.out.2.2.2⟩


end Go.Proofs.Ytmbbabikbmkjpab.fnConvertSymbolUseToCallMovesOneUseToOneCall
