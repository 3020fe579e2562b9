import Derived.Test.YtpehladamabedaaKit
import Derived.Test.YtpehladamabedaaNsC
namespace Go.Proofs.Ytpehladamabedaa.fnGetOrCreateNamespaceMembersCaseTable
open Go.ChangeShapes Go.WideShapes Go.ChangeAt Go.RowKit
set_option linter.unusedVariables false
set_option maxRecDepth 100000
set_option maxHeartbeats 2000000

theorem NS.mk' {w : World} {p sc mm rd : Nat} {name : ByteArray} {mem : Bool} {rk pk sib par : Nat} {tp : Option Addr} {F : Value → Option Value} (c1 : w.cell? ⟨p, 104, none⟩ = some (.pointer (some ⟨sc, 0, none⟩))) (c2 : w.cell? ⟨p, 158, none⟩ = some (.map (some rd)))
    (c3 : w.cell? ⟨sc, 0, none⟩ = some (.pointer tp)) (c4 : w.cell? ⟨sc, 3, none⟩ = some (.map (some mm))) (hM : MapIs w mm IsStr F 1) (hF : F (.string name) = (if mem then some memV else none)) (hR : RefD w rd sib rk) (hT : TSD w tp name par pk) : NS w p name mem rk pk sib par :=
  ⟨sc, mm, rd, tp, F, c1, c2, c3, c4, hM, hF, hR, hT⟩

theorem RowAt.newAt {W : World} {b : Nat} {cs : Array Value} {t : TypeId} (hb : b = W.heap.size) : RowAt (W.alloc (.cells cs t)) b cs t := by
  subst hb
  exact RowAt.new _ _ _

def kind3 (k : Int) : Nat := if k = 1 then 1 else if k = 2 then 2 else 0
def kind4 (k : Int) : Nat := if k = 1 then 1 else if k = 2 then 2 else if k = 3 then 3 else 0

def Mem (w : World) (B : Nat) (name : ByteArray) (mem : Bool) : Prop := ∃ F, MapIs w (B + 1) IsStr F 1 ∧ F (.string name) = (if mem then some memV else none)

/-- The data map behind its first test. -/
def Ref1 (w : World) (B sib : Nat) (rk : Int) : Prop :=
  ∃ F n, MapIs w (B + 1 + 1) IsPair F n ∧ (rk = 1 → ∃ q, F refK = some (.iface 121 (.pointer (some ⟨q, 0, none⟩))) ∧ w.cell? ⟨q, 0, none⟩ = some (.map (some sib))) ∧ (rk ≠ 1 → F = (fun _ => none) ∧ n = 0)

theorem Mem.later {w w' : World} {B : Nat} {name : ByteArray} {mem : Bool} (h : Mem w B name mem) (hb : Below w.heap.size w w') : Mem w' B name mem := by
  obtain ⟨F, hF, e⟩ := h
  exact ⟨F, hF.below hb hF.lt, e⟩
theorem RefD.later {w w' : World} {rd sib k : Nat} (h : RefD w rd sib k) (hb : Below w.heap.size w w') : RefD w' rd sib k := by
  obtain ⟨F, n, hF, e⟩ := h
  refine ⟨F, n, hF.below hb hF.lt, ?_⟩
  rcases e with ⟨h1, q, h2, h3⟩ | h | h
  · exact .inl ⟨h1, q, h2, Ytpehladamabedaa.later h3 hb⟩
  · exact .inr (.inl h)
  · exact .inr (.inr h)
theorem ns_mk {w : World} {p sc B : Nat} {name : ByteArray} {mem : Bool} {rk pk sib par : Nat} {tp : Option Addr} (c1 : w.cell? ⟨p, 104, none⟩ = some (.pointer (some ⟨sc, 0, none⟩))) (c2 : w.cell? ⟨p, 158, none⟩ = some (.map (some (B + 1 + 1))))
    (c3 : w.cell? ⟨sc, 0, none⟩ = some (.pointer tp)) (c4 : w.cell? ⟨sc, 3, none⟩ = some (.map (some (B + 1)))) (hM : Mem w B name mem) (hR : RefD w (B + 1 + 1) sib rk) (hT : TSD w tp name par pk) : NS w p name mem rk pk sib par := by
  obtain ⟨F, hF, e⟩ := hM
  exact ⟨sc, B + 1, B + 1 + 1, tp, F, c1, c2, c3, c4, hF, e, hR, hT⟩

theorem build_ (name other : ByteArray) (mem : Bool) (rk pk : Int) (sib par : Nat) (w : World) (hne : name ≠ other) : Calls Try.prog 21 #[.string name, .string other, .bool mem, .int .i64 rk, .int .i64 pk, .map (some sib), .map (some par)] w
    fun e w' => ∃ p, e = .returned (.pointer (some ⟨p, 0, none⟩)) ∧ NS w' p name mem (kind3 rk) (kind4 pk) sib par ∧ Below w.heap.size w w' := by
  have hmm := @run_makeMap Try.prog
  go_enter Try.func21, Try.ntmps21
  go_upto_if 24 with fail
  go_cut [25] (fun _ wx => Mem wx w.heap.size name mem ∧ RowAt wx w.heap.size #[.int .u32 0, .int .u32 7] 38 ∧ wx.heap.size = w.heap.size + 1 + 1 ∧ Below w.heap.size w wx)
  case first =>
    cases mem
    · go_wp2_with (at_mapUpdate; refine wpList_put rfl (.tmp 29) (.tmp 30) (.tmp 32) 117 rfl 9 119 keyS Try.underlying117 (w.heap.size + 1) 0 (fun _ => none) rfl (MapIs.newAt _ (by go_size)) _ _ rfl rfl ⟨_, rfl⟩ ?_)
      intro w1 hM1 hT1
      have hs1 := hT1.size
      simp only [World.size_alloc] at hs1
      have B1 : Below w.heap.size w w1 := Below.trans (by go_grown) (hT1.below (by omega))
      have r0 : RowAt w1 w.heap.size #[.int .u32 0, .int .u32 7] 38 := hT1.row ((RowAt.new w _ _).alloc _) (by omega)
      have HM : Hid (Mem w1 w.heap.size name false) := ⟨_, hM1, by rw [putF_other _ _ (fun e => hne (by cases e; rfl))]; rfl⟩
      clear hM1 hT1
      go_wp2_with fail
      go_meet
      exact ⟨HM.out, r0, hs1, B1⟩
    · go_wp2_with (at_mapUpdate; refine wpList_put rfl (.tmp 25) (.tmp 26) (.tmp 28) 117 rfl 9 119 keyS Try.underlying117 (w.heap.size + 1) 0 (fun _ => none) rfl (MapIs.newAt _ (by go_size)) _ _ rfl rfl ⟨_, rfl⟩ ?_)
      intro w1 hM1 hT1
      have hs1 := hT1.size
      simp only [World.size_alloc] at hs1
      have B1 : Below w.heap.size w w1 := Below.trans (by go_grown) (hT1.below (by omega))
      have r0 : RowAt w1 w.heap.size #[.int .u32 0, .int .u32 7] 38 := hT1.row ((RowAt.new w _ _).alloc _) (by omega)
      have HM : Hid (Mem w1 w.heap.size name true) := ⟨_, hM1, by rw [putF_same]; rfl⟩
      clear hM1 hT1
      go_wp2_with fail
      go_meet
      exact ⟨HM.out, r0, hs1, B1⟩
  case rest =>
    obtain ⟨hM, r0, hs, hb⟩ := hcut
    have HM := Lib.hid hM
    have HR0 := Lib.hid r0
    clear hM r0
    go_upto_if 35 with fail
    go_cut [36] (fun _ wx => Ref1 wx w.heap.size sib rk ∧ Mem wx w.heap.size name mem ∧ RowAt wx w.heap.size #[.int .u32 0, .int .u32 7] 38 ∧ w.heap.size + 1 + 1 < wx.heap.size ∧ Below w.heap.size w wx)
    case first =>
      by_cases h1 : rk = 1
      · have hb1 : (rk == 1) = true := by simpa using h1
        have e0 := HR0.out.cellv (j := 0) (v := .int .u32 0) rfl
        have e1 := HR0.out.cellv (j := 1) (v := .int .u32 7) rfl
        have H1 := Lib.hid h1
        clear h1
        go_wp2_with (at_mapUpdate; refine wpList_put rfl (.tmp 36) (.tmp 37) (.tmp 41) 120 rfl 38 56 keyR Try.underlying120 (w.heap.size + 1 + 1) 0 (fun _ => none) rfl ((MapIs.newAt IsPair hs.symm).alloc _) _ _ rfl rfl ⟨_, _, rfl⟩ ?_)
        intro w2 hM2 hT2
        have hs2 := hT2.size
        simp only [World.size_alloc, hs] at hs2
        have B2 : Below w.heap.size w w2 := Below.trans (by go_grown) (hT2.below (by omega))
        have q2 : RowAt w2 (w.heap.size + 1 + 1 + 1) #[.map (some sib)] 123 := hT2.row (RowAt.newAt (by simp [hs])) (by omega)
        have r2 : RowAt w2 w.heap.size #[.int .u32 0, .int .u32 7] 38 := hT2.row ((HR0.out.alloc _).alloc _) (by omega)
        have F2 : Hid (Ref1 w2 w.heap.size sib rk) := ⟨_, _, hM2, fun _ => ⟨w.heap.size + 1 + 1 + 1, putF_same _ _ _, q2.cellv (j := 0) rfl⟩, fun h => absurd H1.out h⟩
        have M2 : Hid (Mem w2 w.heap.size name mem) := by
          obtain ⟨F, hF, e⟩ := HM.out
          exact ⟨F, hT2.map ((hF.alloc _).alloc _) (by omega), e⟩
        clear hM2 hT2 q2
        go_wp2_with fail
        go_meet
        exact ⟨F2.out, M2.out, r2, by omega, B2⟩
      · have hb1 : (rk == 1) = false := by simpa using h1
        have H1 := Lib.hid h1
        clear h1
        go_wp2_with fail
        go_meet
        refine ⟨⟨_, _, MapIs.newAt IsPair hs.symm, fun h => absurd h H1.out, fun _ => ⟨rfl, rfl⟩⟩, ?_, HR0.out.alloc _, by simp [hs], by go_grown⟩
        obtain ⟨F, hF, e⟩ := HM.out
        exact ⟨F, hF.alloc _, e⟩
    case rest =>
      clear hs hb HM HR0
      obtain ⟨hR, hM, r0, hs, hb⟩ := hcut
      have HR := Lib.hid hR
      have HM := Lib.hid hM
      have HR0 := Lib.hid r0
      clear hM r0 hR
      go_upto_if 43 with fail
      rename_i wd _ _ _
      go_cut [44] (fun _ wx => RefD wx (w.heap.size + 1 + 1) sib (kind3 rk) ∧ Mem wx w.heap.size name mem ∧ w.heap.size + 1 + 1 < wx.heap.size ∧ Below w.heap.size w wx)
      case first =>
        by_cases h1 : rk = 2
        · have hb1 : (rk == 2) = true := by simpa using h1
          have e0 := HR0.out.cellv (j := 0) (v := .int .u32 0) rfl
          have e1 := HR0.out.cellv (j := 1) (v := .int .u32 7) rfl
          obtain ⟨F, n, hF, _, hno⟩ := HR.out
          obtain ⟨rfl, rfl⟩ := hno (by omega)
          have hlt : w.heap.size < wc.heap.size := by omega
          have H1 := Lib.hid h1
          clear h1 hno
          go_wp2_with (at_mapUpdate; refine wpList_put rfl (.tmp 44) (.tmp 45) (.tmp 48) 120 rfl 38 56 keyR Try.underlying120 (w.heap.size + 1 + 1) 0 (fun _ => none) rfl (hF.alloc _) _ _ rfl rfl ⟨_, _, rfl⟩ ?_)
          intro w2 hM2 hT2
          have hs2 := hT2.size
          simp only [World.size_alloc] at hs2
          have B2 : Below w.heap.size w w2 := Below.trans (by go_grown) (hT2.below (by omega))
          have F2 : Hid (RefD w2 (w.heap.size + 1 + 1) sib (kind3 rk)) := ⟨_, _, hM2, .inr (.inl ⟨by simp [kind3, H1.out], _, putF_same _ _ _⟩)⟩
          have M2 : Hid (Mem w2 w.heap.size name mem) := by
            obtain ⟨F, hF, e⟩ := HM.out
            exact ⟨F, hT2.map (hF.alloc _) (by omega), e⟩
          clear hM2 hT2
          go_wp2_with fail
          go_meet
          exact ⟨F2.out, M2.out, by omega, B2⟩
        · have hb1 : (rk == 2) = false := by simpa using h1
          have H1 := Lib.hid h1
          clear h1
          go_wp2_with fail
          go_meet
          refine ⟨?_, HM.out, hs, hb⟩
          obtain ⟨F, n, hF, hy, hno⟩ := HR.out
          refine ⟨F, n, hF, ?_⟩
          by_cases h2 : rk = 1
          · obtain ⟨q, e1, e2⟩ := hy h2
            exact .inl ⟨by simp [kind3, h2], q, e1, e2⟩
          · obtain ⟨rfl, _⟩ := hno h2
            exact .inr (.inr ⟨by simp [kind3, h2, H1.out], rfl⟩)
      case rest =>
        clear hs hb HM HR0 HR
        obtain ⟨hR, hM, hs, hb⟩ := hcut
        have HR := Lib.hid hR
        have HM := Lib.hid hM
        clear hM hR
        go_upto_if 53 with fail
        have HS0 := RowAt.new wc #[.pointer none, .pointer none, .slice none 0 0, .map (some (w.heap.size + 1)), .slice none 0 0, .slice none 0 0, .int .i32 0, .int .i32 0, .int .u32 0, .int .u32 0, .bool false, .bool false, .bool false, .bool false, .int .u8 0, .int .u8 0] 135
        have hk : pk = 1 ∨ pk = 2 ∨ pk = 3 ∨ (pk ≠ 1 ∧ pk ≠ 2 ∧ pk ≠ 3) := by omega
        rcases hk with hk1 | hk2 | hk3 | ⟨hk1, hk2, hk3⟩
        · subst hk1
          go_wp2_with (at_mapUpdate; refine wpList_put rfl (.tmp 55) (.tmp 56) (.tmp 61) 52 rfl 9 58 keyS Try.underlying52 (wc.heap.size + 1) 0 (fun _ => none) rfl (((MapIs.newAt IsStr (by go_size)).alloc _).alloc _) _ _ rfl rfl ⟨_, rfl⟩ ?_)
          intro w3 hM3 hT3
          have hs3 := hT3.size
          simp only [World.size_alloc] at hs3
          have B3 : Below wc.heap.size wc w3 := Below.trans (by go_grown) (hT3.below (by omega))
          have s3 : RowAt w3 wc.heap.size _ 135 := hT3.row ((((HS0.alloc _).alloc _).alloc _)) (by omega)
          have s0 := s3.cellv (j := 0) (v := .pointer none) rfl
          have y0 := s3.frozen 0
          have HM3 := Lib.hid hM3
          have S3 := Lib.hid s3
          clear hM3 hT3 s3
          go_wp2_with fail
          refine (parser_ _ _ _).mono ?_
          rintro e w4 ⟨pp, rfl, p1, p2, B4⟩
          have r4 := ((S3.out.set 0 (.pointer (some ⟨wc.heap.size + 1 + 1 + 1 + 1, 0, none⟩))).alloc (.cells #[.map (some (wc.heap.size + 1)), .map none, .int .u32 0, .int .u32 0, .bool false] 138))
          have t4 : RowAt ((w3.setCell ⟨wc.heap.size, 0, none⟩ (.pointer (some ⟨wc.heap.size + 1 + 1 + 1 + 1, 0, none⟩))).alloc (.cells #[.map (some (wc.heap.size + 1)), .map none, .int .u32 0, .int .u32 0, .bool false] 138)) (wc.heap.size + 1 + 1 + 1 + 1) _ 138 := RowAt.newAt (by go_size)
          have m4 := (HM3.out.setOther (g := wc.heap.size) (o := 0) (by omega) (.pointer (some ⟨wc.heap.size + 1 + 1 + 1 + 1, 0, none⟩))).alloc (.cells #[.map (some (wc.heap.size + 1)), .map none, .int .u32 0, .int .u32 0, .bool false] 138)
          have BB : Below wc.heap.size wc w4 := Below.trans (by go_grown) (B4.mono (by go_size))
          have K4 : Hid (NS w4 pp name mem (kind3 rk) (kind4 1) sib par) := by
            refine ns_mk p1 p2 ((r4.below B4 r4.lt).cellv (j := 0) rfl) ((r4.below B4 r4.lt).cellv (j := 3) rfl) (HM.out.later BB) (HR.out.later BB) ?_
            exact .inr ⟨_, _, _, _, rfl, (t4.below B4 t4.lt).cellv (j := 0) rfl, m4.below B4 m4.lt, .inl ⟨rfl, by rw [putF_other _ _ (fun e => hne (by cases e; rfl))]⟩⟩
          have BZ : Below w.heap.size w w4 := hb.trans (BB.mono hb.size)
          clear p1 p2 B4 r4 t4 m4
          go_wp2_with fail
          go_ret
          exact ⟨_, rfl, K4.out, BZ⟩
        · subst hk2
          go_wp2_with (at_mapUpdate; refine wpList_put rfl (.tmp 71) (.tmp 72) (.tmp 77) 52 rfl 9 58 keyS Try.underlying52 (wc.heap.size + 1) 0 (fun _ => none) rfl ((MapIs.newAt IsStr (by go_size)).alloc _) _ _ rfl rfl ⟨_, rfl⟩ ?_)
          intro w3 hM3 hT3
          have hs3 := hT3.size
          simp only [World.size_alloc] at hs3
          have B3 : Below wc.heap.size wc w3 := Below.trans (by go_grown) (hT3.below (by omega))
          have s3 : RowAt w3 wc.heap.size _ 135 := hT3.row (((HS0.alloc _).alloc _)) (by omega)
          have s0 := s3.cellv (j := 0) (v := .pointer none) rfl
          have y0 := s3.frozen 0
          have q3 : RowAt w3 (wc.heap.size + 1 + 1) #[.map (some par)] 123 := hT3.row (RowAt.newAt (by go_size)) (by omega)
          have Q3 := Lib.hid q3
          have HM3 := Lib.hid hM3
          have S3 := Lib.hid s3
          clear hM3 hT3 s3 q3
          go_wp2_with fail
          refine (parser_ _ _ _).mono ?_
          rintro e w4 ⟨pp, rfl, p1, p2, B4⟩
          have r4 := ((S3.out.set 0 (.pointer (some ⟨wc.heap.size + 1 + 1 + 1, 0, none⟩))).alloc (.cells #[.map (some (wc.heap.size + 1)), .map none, .int .u32 0, .int .u32 0, .bool false] 138))
          have t4 : RowAt ((w3.setCell ⟨wc.heap.size, 0, none⟩ (.pointer (some ⟨wc.heap.size + 1 + 1 + 1, 0, none⟩))).alloc (.cells #[.map (some (wc.heap.size + 1)), .map none, .int .u32 0, .int .u32 0, .bool false] 138)) (wc.heap.size + 1 + 1 + 1) _ 138 := RowAt.newAt (by go_size)
          have m4 := (HM3.out.setOther (g := wc.heap.size) (o := 0) (by omega) (.pointer (some ⟨wc.heap.size + 1 + 1 + 1, 0, none⟩))).alloc (.cells #[.map (some (wc.heap.size + 1)), .map none, .int .u32 0, .int .u32 0, .bool false] 138)
          have q4 := (Q3.out.set_other (c := wc.heap.size) (by omega) 0 (.pointer (some ⟨wc.heap.size + 1 + 1 + 1, 0, none⟩))).alloc (.cells #[.map (some (wc.heap.size + 1)), .map none, .int .u32 0, .int .u32 0, .bool false] 138)
          have BB : Below wc.heap.size wc w4 := Below.trans (by go_grown) (B4.mono (by go_size))
          have K4 : Hid (NS w4 pp name mem (kind3 rk) (kind4 2) sib par) := by
            refine ns_mk p1 p2 ((r4.below B4 r4.lt).cellv (j := 0) rfl) ((r4.below B4 r4.lt).cellv (j := 3) rfl) (HM.out.later BB) (HR.out.later BB) ?_
            exact .inr ⟨_, _, _, _, rfl, (t4.below B4 t4.lt).cellv (j := 0) rfl, m4.below B4 m4.lt, .inr (.inl ⟨rfl, _, putF_same _ _ _, (q4.below B4 q4.lt).cellv (j := 0) rfl⟩)⟩
          have BZ : Below w.heap.size w w4 := hb.trans (BB.mono hb.size)
          clear p1 p2 B4 r4 t4 m4 q4
          go_wp2_with fail
          go_ret
          exact ⟨_, rfl, K4.out, BZ⟩
        · subst hk3
          go_wp2_with (at_mapUpdate; refine wpList_put rfl (.tmp 87) (.tmp 88) (.tmp 92) 52 rfl 9 58 keyS Try.underlying52 (wc.heap.size + 1) 0 (fun _ => none) rfl ((MapIs.newAt IsStr (by go_size)).alloc _) _ _ rfl rfl ⟨_, rfl⟩ ?_)
          intro w3 hM3 hT3
          have hs3 := hT3.size
          simp only [World.size_alloc] at hs3
          have B3 : Below wc.heap.size wc w3 := Below.trans (by go_grown) (hT3.below (by omega))
          have s3 : RowAt w3 wc.heap.size _ 135 := hT3.row (((HS0.alloc _).alloc _)) (by omega)
          have s0 := s3.cellv (j := 0) (v := .pointer none) rfl
          have y0 := s3.frozen 0
          have HM3 := Lib.hid hM3
          have S3 := Lib.hid s3
          clear hM3 hT3 s3
          go_wp2_with fail
          refine (parser_ _ _ _).mono ?_
          rintro e w4 ⟨pp, rfl, p1, p2, B4⟩
          have r4 := ((S3.out.set 0 (.pointer (some ⟨wc.heap.size + 1 + 1 + 1, 0, none⟩))).alloc (.cells #[.map (some (wc.heap.size + 1)), .map none, .int .u32 0, .int .u32 0, .bool false] 138))
          have t4 : RowAt ((w3.setCell ⟨wc.heap.size, 0, none⟩ (.pointer (some ⟨wc.heap.size + 1 + 1 + 1, 0, none⟩))).alloc (.cells #[.map (some (wc.heap.size + 1)), .map none, .int .u32 0, .int .u32 0, .bool false] 138)) (wc.heap.size + 1 + 1 + 1) _ 138 := RowAt.newAt (by go_size)
          have m4 := (HM3.out.setOther (g := wc.heap.size) (o := 0) (by omega) (.pointer (some ⟨wc.heap.size + 1 + 1 + 1, 0, none⟩))).alloc (.cells #[.map (some (wc.heap.size + 1)), .map none, .int .u32 0, .int .u32 0, .bool false] 138)
          have BB : Below wc.heap.size wc w4 := Below.trans (by go_grown) (B4.mono (by go_size))
          have K4 : Hid (NS w4 pp name mem (kind3 rk) (kind4 3) sib par) := by
            refine ns_mk p1 p2 ((r4.below B4 r4.lt).cellv (j := 0) rfl) ((r4.below B4 r4.lt).cellv (j := 3) rfl) (HM.out.later BB) (HR.out.later BB) ?_
            exact .inr ⟨_, _, _, _, rfl, (t4.below B4 t4.lt).cellv (j := 0) rfl, m4.below B4 m4.lt, .inr (.inr ⟨rfl, _, putF_same _ _ _⟩)⟩
          have BZ : Below w.heap.size w w4 := hb.trans (BB.mono hb.size)
          clear p1 p2 B4 r4 t4 m4
          go_wp2_with fail
          go_ret
          exact ⟨_, rfl, K4.out, BZ⟩
        · have y1 : (pk == 1) = false := by simpa using hk1
          have y2 : (pk == 2) = false := by simpa using hk2
          have y3 : (pk == 3) = false := by simpa using hk3
          have K0 : Hid (kind4 pk = 0) := by simp [Hid, kind4, hk1, hk2, hk3]
          clear hk1 hk2 hk3
          go_wp2_with fail
          refine (parser_ _ _ _).mono ?_
          rintro e w4 ⟨pp, rfl, p1, p2, B4⟩
          have BB : Below wc.heap.size wc w4 := Below.trans (by go_grown) (B4.mono (by go_size))
          have K4 : Hid (NS w4 pp name mem (kind3 rk) (kind4 pk) sib par) := by
            refine ns_mk p1 p2 ((HS0.below B4 HS0.lt).cellv (j := 0) rfl) ((HS0.below B4 HS0.lt).cellv (j := 3) rfl) (HM.out.later BB) (HR.out.later BB) ?_
            rw [K0.out]
            exact .inl ⟨rfl, rfl⟩
          have BZ : Below w.heap.size w w4 := hb.trans (BB.mono hb.size)
          clear p1 p2 B4
          go_wp2_with fail
          go_ret
          exact ⟨_, rfl, K4.out, BZ⟩

end Go.Proofs.Ytpehladamabedaa.fnGetOrCreateNamespaceMembersCaseTable
