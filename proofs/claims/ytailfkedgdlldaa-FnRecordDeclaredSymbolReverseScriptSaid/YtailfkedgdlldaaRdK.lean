import Derived.Test.YtailfkedgdlldaaKit
import Derived.Test.YtailfkedgdlldaaRdJ
import Derived.IntWalk
namespace Go.Proofs.Ytailfkedgdlldaa
open Go.ChangeShapes Go.WideShapes Go.ChangeAt Go.RowKit
set_option linter.unusedVariables false
set_option maxRecDepth 100000
set_option maxHeartbeats 2000000

/-- A new scope's cells. -/
def scCs (par : Value) (mm : Nat) : Array Value := #[.pointer none, par, .slice none 0 0, .map (some mm), .slice none 0 0, .slice none 0 0, .int .i32 0, .int .i32 0, .int .u32 0, .int .u32 0, .bool false, .bool false, .bool false, .bool false, .int .u8 0, .int .u8 0]

/-- What the members hold is a reference to some symbol. -/
def Shaped (F : Value → Option Value) : Prop := ∀ v, F v = none ∨ ∃ m : Int, F v = some (.agg #[.int .u32 1, .int .u32 m, .int .i32 0])
theorem Shaped.put {F : Value → Option Value} (h : Shaped F) (v : Value) (m : Int) : Shaped (putF F v (.agg #[.int .u32 1, .int .u32 m, .int .i32 0])) := fun u => by
  unfold putF
  by_cases e : u = v
  · rw [if_pos e]; exact .inr ⟨m, rfl⟩
  · rw [if_neg e]; exact h u

/-- The module's scope and its members, as far as they have been laid. -/
def ScG (w0 : World) (mod mm : Nat) (w : World) : Prop := ∃ F cnt, RowAt w mod (scCs (.pointer none) mm) 205 ∧ MapIs w mm IsStr F cnt ∧ Shaped F ∧ Below w0.heap.size w0 w

theorem ScG.later {w0 w w' : World} {mod mm : Nat} (h : ScG w0 mod mm w) (hb : Below w.heap.size w w') : ScG w0 mod mm w' := by
  obtain ⟨F, cnt, h1, h2, h3, h4⟩ := h
  exact ⟨F, cnt, h1.below hb h1.lt, h2.below hb h2.lt, h3, h4.trans (hb.mono h4.size)⟩
theorem ScG.cell {w0 w : World} {mod mm : Nat} (h : ScG w0 mod mm w) : w.cell? ⟨mod, 3, none⟩ = some (.map (some mm)) := by
  obtain ⟨F, cnt, h1, _⟩ := h
  exact h1.cellv rfl
theorem ScG.put {w0 w : World} {mod mm : Nat} (h : ScG w0 mod mm w) (hmm : w0.heap.size ≤ mm) (s : ByteArray) (m : Int) : ∃ w', (Instr.mapUpdate 198 (.map (some mm)) (.string s) (.agg #[.int .u32 1, .int .u32 m, .int .i32 0])).run Try.prog w = .ok () w' ∧ ScG w0 mod mm w' := by
  obtain ⟨F, cnt, h1, h2, h3, h4⟩ := h
  obtain ⟨w', r1, r2, r3⟩ := h2.update (x := .agg #[.int .u32 1, .int .u32 m, .int .i32 0]) keyS Try.underlying198 (v := .string s) ⟨_, rfl⟩
  exact ⟨w', r1, _, _, r3.row h1 (h1.neMap h2), r2, h3.put _ m, h4.trans (r3.below hmm)⟩

/-- What the scopes' maker leaves. -/
def Sc24 (top : Bool) (w : World) (e : Ending) (w' : World) : Prop := ∃ cur, e = .returned (.tuple #[.pointer (some ⟨cur, 0, none⟩), .pointer (some ⟨w.heap.size + 1, 0, none⟩)]) ∧ ScG w (w.heap.size + 1) w.heap.size w' ∧ (if top then cur = w.heap.size + 1 else cur ≠ w.heap.size + 1 ∧ ∃ cs, RowAt w' cur cs 205)

theorem scopes24 (n : Nat) (a : Option Addr) (l c : Nat) (z : List Int) (top : Bool) (w : World) (hn : n ≤ 65537) (hl : l ≤ 65536) (h : IsRow .u16 w a l c z) (hz : ∀ i, i < l → 0 ≤ z.getD i 0 ∧ z.getD i 0 ≤ 65535) :
    Calls Try.prog 24 #[.int .i64 n, .slice a l c, .bool top] w (Sc24 top w) := by
  have hmm := @run_makeMap Try.prog
  have HW := Lib.hid h
  have HZ := Lib.hid hz
  clear h hz
  go_enter Try.func24, Try.ntmps24
  go_wp2_with fail
  have hG0 : Hid (ScG w (w.heap.size + 1) w.heap.size ((w.alloc (.map #[] 0)).alloc (.cells (scCs (.pointer none) w.heap.size) 205))) := ⟨fun _ => none, 0, RowAt.newAt (by simp), (MapIs.new w IsStr).alloc _, fun _ => .inl rfl, by go_grown⟩
  go_loopw [9, 10] (fun v9 _ wr => ∃ j : Nat, j ≤ 8 ∧ v9 = .int .i64 j ∧ ScG w (w.heap.size + 1) w.heap.size wr) (fun v9 _ _ => 8 - (intOf v9).toNat)
  case atStart => exact ⟨0, by omega, rfl, hG0.out⟩
  case round =>
    obtain ⟨j, hj, rfl, hG⟩ := hrel
    have HG := Lib.hid hG
    clear hG hG0
    by_cases hlt : j < 8
    · have hjl : (j : Int) < 8 := by omega
      have HB : Hid (Below w.heap.size w wr) := by
        obtain ⟨_, _, _, _, _, h⟩ := HG.out
        exact h
      go_wp2_with fail
      refine (mem34 a l c j n z _ (by omega) hn hl (isrow_later HW.out HB.out) HZ.out).mono ?_
      rintro e wa ⟨m, rfl, m0, m1, rfl⟩
      by_cases hm : 0 ≤ m
      · obtain ⟨q, rfl⟩ : ∃ q : Nat, m = q := ⟨m.toNat, by omega⟩
        have c0 := HG.out.cell
        have c0d : wr.drew.cell? ⟨w.heap.size + 1, 3, none⟩ = some (.map (some w.heap.size)) := c0
        go_wp2_with fail
        have hw8 : IntKind.u8.wrap (j : Int) = (j : Int) := IntWalk.u8_in _ (by omega)
        go_region_held3 (fun w' => w'.cell? ⟨w.heap.size + 1, 3, none⟩ = some (.map (some w.heap.size))) (go_keep)
          (first
            | (go_at_call 31; (with_reducible refine (name31 (j : Int) _ (by omega) (by omega)).mono ?_); rintro e w2 ⟨rfl, hb2⟩; have hx31 : Hid (Below wr.heap.size wr w2) := (by first | exact hx28.out.trans (hb2.mono hx28.out.size) | exact Below.trans (by go_grown) (hb2.mono (by go_size))); have d31 := (HG.out.later hx31.out).cell; obtain ⟨w3, hrun, hg3⟩ := (HG.out.later hx31.out).put (Nat.le_refl _) (nmB j) q; have d3 := hg3.cell; have HG3 := Lib.hid hg3; clear hb2 hg3)
            | (go_at_call 28; (with_reducible refine (ref28 q _ (by omega)).mono ?_); rintro e w2 ⟨rfl, hb2⟩; have hx28 : Hid (Below wr.heap.size wr w2) := (by first | exact hx31.out.trans (hb2.mono hx31.out.size) | exact Below.trans (by go_grown) (hb2.mono (by go_size))); have d28 := (HG.out.later hx28.out).cell; obtain ⟨w3, hrun, hg3⟩ := (HG.out.later hx28.out).put (Nat.le_refl _) (nmB j) q; have d3 := hg3.cell; have HG3 := Lib.hid hg3; clear hb2 hg3))
        all_goals
          go_wp2_with fail
          go_roundw
          case rel =>
            refine ⟨j + 1, by omega, by go_num, ?_⟩
            exact Hid.out (by assumption)
          case measure => simp [intOf]; omega
      · have hm' : m < 0 := by omega
        go_wp2_with fail
        go_roundw
        case rel => exact ⟨j + 1, by omega, by go_num, HG.out⟩
        case measure => simp [intOf]; omega
    · obtain rfl : j = 8 := by omega
      clear hlt
      obtain ⟨F, cnt, g1, g2, g3, g4⟩ := HG.out
      have zz := g1.lt
      cases top
      · clear g1 g2 g3 g4
        go_wp2_with fail
        go_ret2
        refine ⟨wr.heap.size + 1, rfl, HG.out.later (by go_grown), ?_⟩
        exact ⟨by omega, _, RowAt.newAt (by simp)⟩
      · clear g1 g2 g3 g4
        go_wp2_with fail
        go_ret2
        exact ⟨_, rfl, HG.out, rfl⟩

end Go.Proofs.Ytailfkedgdlldaa
