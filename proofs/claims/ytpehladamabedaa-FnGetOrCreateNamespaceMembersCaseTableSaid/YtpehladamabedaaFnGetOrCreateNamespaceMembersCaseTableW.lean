import Derived.Test.YtpehladamabedaaKit
import Derived.Test.YtpehladamabedaaNsD
namespace Go.Proofs.Ytpehladamabedaa.fnGetOrCreateNamespaceMembersCaseTable
open Go.ChangeShapes Go.WideShapes Go.ChangeAt Go.RowKit
set_option linter.unusedVariables false
set_option maxRecDepth 100000
set_option maxHeartbeats 2000000

/-- Some bool comes back, true only if p; the world stands. -/
def SomeB (p : Prop) (w : World) (e : Ending) (w' : World) : Prop := ∃ b, e = .returned (.bool b) ∧ w = w' ∧ (b = true → p)

theorem zzb (a0 a1 : ByteArray) (a2 a5 : Bool) (a3 a4 : Int) (w : World) (h0 : a0.size ≤ 9223372036854775807) (h1 : a1.size ≤ 9223372036854775807) : Calls Try.prog 20 #[.string a0, .string a1, .bool a2, .int .i64 a3, .int .i64 a4, .bool a5] w (SomeB (a0.size ≤ 1048576 ∧ a1.size ≤ 1048576) w) := by
  by_cases h2 : 1048576 < a0.size
  · go_enter Try.func20, Try.ntmps20
    go_wp2
    go_ret
    exact ⟨_, rfl, rfl, fun h => by cases h⟩
  by_cases h3 : 1048576 < a1.size
  · go_enter Try.func20, Try.ntmps20
    go_wp2
    go_ret
    exact ⟨_, rfl, rfl, fun h => by cases h⟩
  have h4 : a0.size ≤ 1048576 := by omega
  have h5 : a1.size ≤ 1048576 := by omega
  by_cases h6 : 1048576 < (a0.size : Int) + a1.size
  · go_enter Try.func20, Try.ntmps20
    go_wp2
    all_goals (go_ret; first | exact ⟨_, rfl, rfl, fun _ => ⟨h4, h5⟩⟩ | exact ⟨_, rfl, rfl, fun _ => trivial⟩)
  · go_enter Try.func20, Try.ntmps20
    go_wp2
    all_goals (go_ret; first | exact ⟨_, rfl, rfl, fun _ => ⟨h4, h5⟩⟩ | exact ⟨_, rfl, rfl, fun _ => trivial⟩)

theorem run_eql_map_nil_ (w : World) (t k e : TypeId) (m : Option Nat) (h : Try.prog.underlying t = some (.map k e)) : (binOp .eql t (.map m) (.map none)).run Try.prog w = .ok (.bool m.isNone) w := by
  simp only [binOp]
  simp [run_equal_map_nil w t k e m h]

theorem get22 (p : Nat) (name : ByteArray) (mem ex : Bool) (rk pk sib par : Nat) (w : World) (h : NS w p name mem rk pk sib par) :
    Calls Try.prog 22 #[.pointer (some ⟨p, 0, none⟩), .string name, .bool ex] w (GotIs w mem ex rk pk sib par) := by
  have H := Lib.hid h
  clear h
  go_enter Try.func22, Try.ntmps22
  go_wp2_with fail
  refine (get p name mem ex rk pk sib par _ H.out).mono ?_
  rintro e w1 ⟨g, rfl, h⟩
  have H1 := Lib.hid h
  clear h
  go_wp2_with fail
  go_ret
  exact ⟨g, rfl, H1.out⟩

/-- The map that came back is empty, takes one entry, and which of the others is it? -/
theorem walkIn (a0 a1 : ByteArray) (a2 : Bool) (a3 a4 : Int) (a5 : Bool) (w : World) (h0 : a0.size ≤ 65536) (h1 : a1.size ≤ 65536) (hne : a0 ≠ a1) :
    Calls Try.prog 5 #[.string a0, .string a1, .bool a2, .int .i64 a3, .int .i64 a4, .bool a5] w fun e w' => e = .returned (.bool true) ∧ Below w.heap.size w w' := by
  have hmm := @run_makeMap Try.prog
  have hst : ¬ (1048576 < (a0.size : Int) + a1.size) := by omega
  have he : (a0.toList == a1.toList) = false := by
    rw [beq_eq_false_iff_ne]
    intro e
    rw [ByteArray.toList_eq, ByteArray.toList_eq] at e
    exact hne (Go.WideShapes.bytes_inj e)
  go_enter Try.func5, Try.ntmps5
  go_wp2_with fail
  refine (zzb a0 a1 a2 a5 a3 a4 _ (by omega) (by omega)).mono ?_
  rintro e w1 ⟨b, rfl, rfl, hsm⟩
  cases b
  · go_wp2_with fail
    go_ret
    exact ⟨rfl, Below.refl _ _⟩
  go_wp2_with fail
  refine (build_ a0 a1 a2 a3 a4 _ _ _ hne).mono ?_
  rintro e w2 ⟨p, rfl, hN, b2⟩
  have m1 : MapIs w2 w.heap.size IsStr (fun _ => none) 0 := ((MapIs.new w IsStr).alloc _).below b2 (by go_size)
  have m2 : MapIs w2 (w.heap.size + 1) IsStr (fun _ => none) 0 := (MapIs.newAt IsStr (by go_size)).below b2 (by go_size)
  have B2 : Below w.heap.size w w2 := Below.trans (by go_grown) (b2.mono (by go_size))
  have HN := Lib.hid hN
  have M1 := Lib.hid m1
  have M2 := Lib.hid m2
  clear hN m1 m2 b2
  go_wp2_with fail
  refine (get22 p a0 a2 a5 _ _ _ _ _ HN.out).mono ?_
  rintro e w3 ⟨g, rfl, b3, hg⟩
  have m1 := M1.out.below b3 M1.out.lt
  have m2 := M2.out.below b3 M2.out.lt
  have B3 : Below w.heap.size w w3 := B2.trans (b3.mono B2.size)
  have hne2 := fun (W : World) (m : Nat) => run_eql_map_nil_ W 52 9 58 (some m) Try.underlying52
  have hlt1 := M1.out.lt
  have hlt2 := M2.out.lt
  clear M1 M2 HN
  rcases hg with ⟨rfl, hk, rfl⟩ | ⟨hno, rfl, hk, rfl⟩ | ⟨hno, hno2, hge, hM⟩
  · have hb : (a3 == 1) = true := by
      unfold kind3 at hk
      by_cases h : a3 = 1
      · simp [h]
      · rw [if_neg h] at hk; split at hk <;> cases hk
    have l0 : ∀ ty, (Builtin.len_ #[52] ty #[.map (some w.heap.size)]).run Try.prog w3 = .ok (.int .i64 (0 : Nat)) w3 := fun ty => m1.len Try.underlying52
    have HM2 := Lib.hid m2
    clear hk m2
    go_wp2_with (at_mapUpdate; refine wpList_put rfl (.tmp 63) (.tmp 64) (.tmp 65) 52 rfl 9 58 keyS Try.underlying52 w.heap.size 0 (fun _ => none) rfl m1 _ _ rfl rfl ⟨_, rfl⟩ ?_)
    intro w4 hM4 hT4
    have k0 : ∀ ty, (Builtin.len_ #[52] ty #[.map (some w.heap.size)]).run Try.prog w4 = .ok (.int .i64 (1 : Nat)) w4 := fun ty => hM4.len Try.underlying52
    have k1 : ∀ ty, (Builtin.len_ #[52] ty #[.map (some (w.heap.size + 1))]).run Try.prog w4 = .ok (.int .i64 (0 : Nat)) w4 := fun ty => (hT4.map HM2.out (by omega)).len Try.underlying52
    have B4 : Below w.heap.size w w4 := B3.trans (hT4.below (Nat.le_refl _))
    clear hM4 hT4
    go_wp2_with fail
    go_ret
    exact ⟨rfl, B4⟩
  · have hb : (a4 == 2) = true := by
      unfold kind4 at hk
      by_cases h : a4 = 2
      · simp [h]
      · rw [if_neg h] at hk; split at hk; · cases hk
        split at hk <;> cases hk
    have hc : a2 = false ∨ (a2 = true ∧ (a3 == 1) = false) := by
      cases a2
      · exact .inl rfl
      · refine .inr ⟨rfl, ?_⟩
        by_cases h : a3 = 1
        · simp [kind3, h] at hno
        · simpa using h
    have l0 : ∀ ty, (Builtin.len_ #[52] ty #[.map (some (w.heap.size + 1))]).run Try.prog w3 = .ok (.int .i64 (0 : Nat)) w3 := fun ty => m2.len Try.underlying52
    have HM1 := Lib.hid m1
    clear hk m1 hno
    rcases hc with rfl | ⟨rfl, hc⟩
    all_goals
      go_wp2_with (at_mapUpdate; refine wpList_put rfl (.tmp 63) (.tmp 64) (.tmp 65) 52 rfl 9 58 keyS Try.underlying52 (w.heap.size + 1) 0 (fun _ => none) rfl m2 _ _ rfl rfl ⟨_, rfl⟩ ?_)
      intro w4 hM4 hT4
      have k0 : ∀ ty, (Builtin.len_ #[52] ty #[.map (some w.heap.size)]).run Try.prog w4 = .ok (.int .i64 (0 : Nat)) w4 := fun ty => (hT4.map HM1.out (by omega)).len Try.underlying52
      have k1 : ∀ ty, (Builtin.len_ #[52] ty #[.map (some (w.heap.size + 1))]).run Try.prog w4 = .ok (.int .i64 (1 : Nat)) w4 := fun ty => hM4.len Try.underlying52
      have B4 : Below w.heap.size w w4 := B3.trans (hT4.below (by omega))
      clear hM4 hT4
      go_wp2_with fail
      go_ret
      exact ⟨rfl, B4⟩
  · have hc : a2 = false ∨ (a2 = true ∧ (a3 == 1) = false) := by
      cases a2
      · exact .inl rfl
      · refine .inr ⟨rfl, ?_⟩
        by_cases h : a3 = 1
        · simp [kind3, h] at hno
        · simpa using h
    have hd : a5 = false ∨ (a5 = true ∧ (a4 == 2) = false) := by
      cases a5
      · exact .inl rfl
      · refine .inr ⟨rfl, ?_⟩
        by_cases h : a4 = 2
        · simp [kind4, h] at hno2
        · simpa using h
    have l0 : ∀ ty, (Builtin.len_ #[52] ty #[.map (some g)]).run Try.prog w3 = .ok (.int .i64 (0 : Nat)) w3 := fun ty => hM.len Try.underlying52
    have HM1 := Lib.hid m1
    have HM2 := Lib.hid m2
    clear m1 m2 hno hno2
    rcases hc with rfl | ⟨rfl, hc⟩
    all_goals
      rcases hd with rfl | ⟨rfl, hd⟩
      all_goals
        go_wp2_with (at_mapUpdate; refine wpList_put rfl (.tmp 63) (.tmp 64) (.tmp 65) 52 rfl 9 58 keyS Try.underlying52 g 0 (fun _ => none) rfl hM _ _ rfl rfl ⟨_, rfl⟩ ?_)
        intro w4 hM4 hT4
        have k0 : ∀ ty, (Builtin.len_ #[52] ty #[.map (some w.heap.size)]).run Try.prog w4 = .ok (.int .i64 (0 : Nat)) w4 := fun ty => (hT4.map HM1.out (by omega)).len Try.underlying52
        have k1 : ∀ ty, (Builtin.len_ #[52] ty #[.map (some (w.heap.size + 1))]).run Try.prog w4 = .ok (.int .i64 (0 : Nat)) w4 := fun ty => (hT4.map HM2.out (by omega)).len Try.underlying52
        have k2 : ∀ ty, (Builtin.len_ #[52] ty #[.map (some g)]).run Try.prog w4 = .ok (.int .i64 (1 : Nat)) w4 := fun ty => hM4.len Try.underlying52
        have B4 : Below w.heap.size w w4 := B3.trans (hT4.below (by omega))
        clear hM4 hT4
        go_wp2_with fail
        go_ret
        exact ⟨rfl, B4⟩

theorem walk (a0 : ByteArray) (a1 : ByteArray) (a2 : Bool) (a3 : Int) (a4 : Int) (a5 : Bool) (w : World) (w0 : a0.size ≤ maxLen) (w1 : a1.size ≤ maxLen) (w3 : (Lit.int .i64 a3).wf = true) (w4 : (Lit.int .i64 a4).wf = true) :
    Calls Try.prog 5 #[.string a0, .string a1, .bool a2, .int .i64 a3, .int .i64 a4, .bool a5] w fun e w' => e = .returned (.bool true) ∧ Below w.heap.size w w' := by
  unfold maxLen at w0 w1
  clear w3 w4
  by_cases hbig : a0.size ≤ 65536 ∧ a1.size ≤ 65536
  · obtain ⟨h0, h1⟩ := hbig
    by_cases hne : a0 = a1
    · have he : (a0.toList == a1.toList) = true := by rw [hne]; simp
      have hst : ¬ (1048576 < (a0.size : Int) + a1.size) := by omega
      clear hne
      go_enter Try.func5, Try.ntmps5
      go_wp2_with fail
      refine (zzb a0 a1 a2 a5 a3 a4 _ (by omega) (by omega)).mono ?_
      rintro e w1 ⟨b, rfl, rfl, hsm⟩
      cases b
      all_goals
        go_wp2_with fail
        go_ret
        exact ⟨rfl, Below.refl _ _⟩
    · exact walkIn a0 a1 a2 a3 a4 a5 w h0 h1 hne
  · by_cases hs : 1048576 < (a0.size : Int) + a1.size
    · go_enter Try.func5, Try.ntmps5
      go_wp2_with fail
      refine (zzb a0 a1 a2 a5 a3 a4 _ (by omega) (by omega)).mono ?_
      rintro e w1 ⟨b, rfl, rfl, hsm⟩
      cases b
      · go_wp2_with fail
        go_ret
        exact ⟨rfl, Below.refl _ _⟩
      · obtain ⟨q0, q1⟩ := hsm rfl
        clear hsm
        go_wp2_with fail
        all_goals
          go_ret
          exact ⟨rfl, Below.refl _ _⟩
    · by_cases h1 : 65536 < a0.size
      all_goals
        go_enter Try.func5, Try.ntmps5
        go_wp2_with fail
        refine (zzb a0 a1 a2 a5 a3 a4 _ (by omega) (by omega)).mono ?_
        rintro e w1 ⟨b, rfl, rfl, hsm⟩
        cases b
        · go_wp2_with fail
          go_ret
          exact ⟨rfl, Below.refl _ _⟩
        · obtain ⟨q0, q1⟩ := hsm rfl
          clear hsm
          go_wp2_with fail
          all_goals
            go_ret
            exact ⟨rfl, Below.refl _ _⟩

end Go.Proofs.Ytpehladamabedaa.fnGetOrCreateNamespaceMembersCaseTable
