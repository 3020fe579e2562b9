import Derived.Test.YtmbbabikbmkjpabKit
import Derived.Test.YtmbbabikbmkjpabTbB
namespace Go.Proofs.Ytmbbabikbmkjpab.fnToBooleanSoundAgainstJSTruthiness
open Go.ChangeShapes Go.WideShapes Go.ChangeAt Go.RowKit
set_option linter.unusedVariables false
set_option maxRecDepth 100000
set_option maxHeartbeats 2000000

theorem RowAt.newAt {W : World} {b : Nat} {cs : Array Value} {t : TypeId} (hb : b = W.heap.size) : RowAt (W.alloc (.cells cs t)) b cs t := by
  subst hb
  exact RowAt.new _ _ _

/-- The rows of other types than expressions' and truths' stay. -/
structure KeptT (w w' : World) : Prop where
  size : w.heap.size ≤ w'.heap.size
  rows : ∀ b cs T, RowAt w b cs T → T ≠ 32 → T ≠ 33 → RowAt w' b cs T
theorem KeptT.refl {w : World} : KeptT w w := ⟨Nat.le_refl _, fun _ _ _ h _ _ => h⟩
theorem KeptT.trans {w w' w'' : World} (h : KeptT w w') (g : KeptT w' w'') : KeptT w w'' := ⟨Nat.le_trans h.size g.size, fun b cs T hr h1 h2 => g.rows b cs T (h.rows b cs T hr h1 h2) h1 h2⟩
theorem KeptT.below {w w' : World} (h : Below w.heap.size w w') : KeptT w w' := ⟨h.size, fun b cs T hr _ _ => hr.below h hr.lt⟩
theorem KeptT.set {w w' : World} (h : KeptT w w') {b o : Nat} {cs : Array Value} {T : TypeId} (hr : RowAt w' b cs T) (hT : T = 32 ∨ T = 33) (v : Value) : KeptT w (w'.setCell ⟨b, o, none⟩ v) :=
  h.trans ⟨by simp, fun c ds U hu h1 h2 => hu.set_other (hu.diff hr (by rcases hT with rfl | rfl <;> assumption)) _ _⟩
theorem KeptT.drewN {w w' : World} (h : KeptT w w') (n : Nat) : KeptT w (w'.drewN n) := ⟨h.size, h.rows⟩

/-- What the program says of this node is its truth t, now and as long as its rows stay. -/
def Good (w : World) (U u : Nat) (t : Int) : Prop := ∀ w', KeptT w w' → Calls Try.prog 10 #[.iface U (.pointer (some ⟨u, 0, none⟩))] w' (TB t w')
theorem Good.kept {w w' : World} {U u : Nat} {t : Int} (h : Good w U u t) (hk : KeptT w w') : Good w' U u t := fun w'' hk' => h w'' (hk.trans hk')

section
variable {w : World} {u U v : Nat} {l : Int} {t : Int} {cs : Array Value}
theorem good_not (h : Good w U v t) (hr : RowAt w u cs 71) (c0 : cs[0]? = some (.iface U (.pointer (some ⟨v, 0, none⟩)))) (c2 : cs[2]? = some (.int .u8 3)) : Good w 68 u (tNot t) := fun w' hk =>
  have hr' := hk.rows _ _ _ hr (by decide) (by decide)
  not_node (hr'.cellv c0) (hr'.cellv c2) (h w' hk)
theorem good_void (hr : RowAt w u cs 71) (c2 : cs[2]? = some (.int .u8 4)) : Good w 68 u 0 := fun w' hk =>
  have hr' := hk.rows _ _ _ hr (by decide) (by decide)
  void_node (hr'.cellv c2)
theorem good_typeof (hr : RowAt w u cs 71) (c2 : cs[2]? = some (.int .u8 5)) (c3 : cs[3]? = some (.bool false)) : Good w 68 u 1 := fun w' hk =>
  have hr' := hk.rows _ _ _ hr (by decide) (by decide)
  typeof_node false (hr'.cellv c2) (hr'.cellv c3)
theorem good_enum (h : Good w U v t) (hr : RowAt w u cs 79) (c0 : cs[0]? = some (.iface U (.pointer (some ⟨v, 0, none⟩)))) : Good w 77 u t := fun w' hk =>
  have hr' := hk.rows _ _ _ hr (by decide) (by decide)
  enum_node (hr'.cellv c0) (h w' hk)
theorem good_ann (h : Good w U v t) (hr : RowAt w u cs 76) (x : Int) (hx : x = 0 ∨ x = 1) (c0 : cs[0]? = some (.iface U (.pointer (some ⟨v, 0, none⟩)))) (c2 : cs[2]? = some (.int .u8 x)) : Good w 73 u t := fun w' hk =>
  have hr' := hk.rows _ _ _ hr (by decide) (by decide)
  ann_node x (decide (x = 1)) (by rcases hx with rfl | rfl <;> simp) (hr'.cellv c0) (hr'.cellv c2) (h w' hk)
theorem good_or (ta : Int) (h : Good w U v t) (hr : RowAt w u cs 83) (c2 : cs[2]? = some (.iface U (.pointer (some ⟨v, 0, none⟩)))) (c4 : cs[4]? = some (.int .u8 31)) : Good w 81 u (tOr ta t) := fun w' hk =>
  have hr' := hk.rows _ _ _ hr (by decide) (by decide)
  or_node ta (hr'.cellv c2) (hr'.cellv c4) (h w' hk)
theorem good_and (ta : Int) (h : Good w U v t) (hr : RowAt w u cs 83) (c2 : cs[2]? = some (.iface U (.pointer (some ⟨v, 0, none⟩)))) (c4 : cs[4]? = some (.int .u8 32)) : Good w 81 u (tAnd ta t) := fun w' hk =>
  have hr' := hk.rows _ _ _ hr (by decide) (by decide)
  and_node ta (hr'.cellv c2) (hr'.cellv c4) (h w' hk)
theorem good_comma (h : Good w U v t) (hr : RowAt w u cs 83) (c2 : cs[2]? = some (.iface U (.pointer (some ⟨v, 0, none⟩)))) (c4 : cs[4]? = some (.int .u8 36)) : Good w 81 u t := fun w' hk =>
  have hr' := hk.rows _ _ _ hr (by decide) (by decide)
  comma_node (hr'.cellv c2) (hr'.cellv c4) (h w' hk)
theorem good_if (t : Int) : Good w 85 u t := fun w' _ => leaf_none 85 t _ w' (.inr rfl)
end

def GotL (w : World) (e : Ending) (w' : World) : Prop := ∃ (U u : Nat) (t : Int), e = .returned (.tuple #[.agg #[.iface U (.pointer (some ⟨u, 0, none⟩)), .int .i32 0], .int .i8 t]) ∧ Good w' U u t ∧ (t = -1 ∨ t = 0 ∨ t = 1) ∧ Below w.heap.size w w'
def GotN (f : Nat) (w : World) (e : Ending) (w' : World) : Prop := ∃ u : Nat, e = .returned (.agg #[.iface 94 (.pointer (some ⟨u, 0, none⟩)), .int .i32 0]) ∧ Good w' 94 u (numT f) ∧ Below w.heap.size w w'
theorem num22 (f : Nat) (w : World) : Calls Try.prog 22 #[.float .f64 f] w (GotN f w) := by
  go_enter Try.func22, Try.ntmps22
  go_wp2_with fail
  go_returns
  exact ⟨_, rfl, fun w' hk => leaf_num _ f w' ((hk.rows _ _ _ (RowAt.newAt (by go_size)) (by decide) (by decide)).cellv rfl), by go_grown⟩
theorem lf0 (f : Nat) (w : World) : Calls Try.prog 13 #[.int .u8 0, .float .f64 f] w (GotL w) := by
  go_enter Try.func13, Try.ntmps13
  go_wp2_with fail
  go_returns
  exact ⟨_, _, _, rfl, fun w' hk => leaf_false 89 _ w' (.inl rfl), .inr (.inl rfl), by go_grown⟩
theorem lf1 (f : Nat) (w : World) : Calls Try.prog 13 #[.int .u8 1, .float .f64 f] w (GotL w) := by
  go_enter Try.func13, Try.ntmps13
  go_wp2_with fail
  go_returns
  exact ⟨_, _, _, rfl, fun w' hk => leaf_false 90 _ w' (.inr rfl), .inr (.inl rfl), by go_grown⟩
theorem lf2 (f : Nat) (w : World) : Calls Try.prog 13 #[.int .u8 2, .float .f64 f] w (GotL w) := by
  go_enter Try.func13, Try.ntmps13
  go_wp2_with fail
  go_returns
  exact ⟨_, _, _, rfl, fun w' hk => leaf_bool _ true w' ((hk.rows _ _ _ (RowAt.newAt (by go_size)) (by decide) (by decide)).cellv rfl), .inr (.inr rfl), by go_grown⟩
theorem lf3 (f : Nat) (w : World) : Calls Try.prog 13 #[.int .u8 3, .float .f64 f] w (GotL w) := by
  go_enter Try.func13, Try.ntmps13
  go_wp2_with fail
  go_returns
  exact ⟨_, _, _, rfl, fun w' hk => leaf_bool _ false w' ((hk.rows _ _ _ (RowAt.newAt (by go_size)) (by decide) (by decide)).cellv rfl), .inr (.inl rfl), by go_grown⟩
theorem lf5 (f : Nat) (w : World) : Calls Try.prog 13 #[.int .u8 5, .float .f64 f] w (GotL w) := by
  go_enter Try.func13, Try.ntmps13
  go_wp2_with fail
  go_returns
  exact ⟨_, _, _, rfl, fun w' hk => leaf_str0 _ w' ((hk.rows _ _ _ (RowAt.newAt (by go_size)) (by decide) (by decide)).cellv rfl), .inr (.inl rfl), by go_grown⟩
theorem lf6 (f : Nat) (w : World) : Calls Try.prog 13 #[.int .u8 6, .float .f64 f] w (GotL w) := by
  go_enter Try.func13, Try.ntmps13
  go_wp2_with fail
  go_returns
  exact ⟨_, _, _, rfl, fun w' hk => leaf_str1 _ _ w' ((hk.rows _ _ _ (RowAt.newAt (by go_size)) (by decide) (by decide)).cellv rfl), .inr (.inr rfl), by go_grown⟩
theorem lf7 (f : Nat) (w : World) : Calls Try.prog 13 #[.int .u8 7, .float .f64 f] w (GotL w) := by
  go_enter Try.func13, Try.ntmps13
  go_wp2_with fail
  go_returns
  exact ⟨_, _, _, rfl, fun w' hk => leaf_true 110 _ w' (.inr (.inl rfl)), .inr (.inr rfl), by go_grown⟩
theorem lf8 (f : Nat) (w : World) : Calls Try.prog 13 #[.int .u8 8, .float .f64 f] w (GotL w) := by
  go_enter Try.func13, Try.ntmps13
  go_wp2_with fail
  go_returns
  exact ⟨_, _, _, rfl, fun w' hk => leaf_true 111 _ w' (.inr (.inr rfl)), .inr (.inr rfl), by go_grown⟩
theorem lf9 (f : Nat) (w : World) : Calls Try.prog 13 #[.int .u8 9, .float .f64 f] w (GotL w) := by
  go_enter Try.func13, Try.ntmps13
  go_wp2_with fail
  go_returns
  exact ⟨_, _, _, rfl, fun w' hk => leaf_true 108 _ w' (.inl rfl), .inr (.inr rfl), by go_grown⟩
theorem lf10 (f : Nat) (w : World) : Calls Try.prog 13 #[.int .u8 10, .float .f64 f] w (GotL w) := by
  go_enter Try.func13, Try.ntmps13
  go_wp2_with fail
  go_returns
  exact ⟨_, _, _, rfl, fun w' hk => leaf_none 246 _ _ w' (.inl rfl), .inl rfl, by go_grown⟩
theorem lf4 (f : Nat) (w : World) : Calls Try.prog 13 #[.int .u8 4, .float .f64 f] w (GotL w) := by
  have key : ∀ (b1 b2 : Bool), (FloatKind.f64.format.order f 0 == some .lt) = b1 → (FloatKind.f64.format.order f 0 == some .gt) = b2 → numT f = (if b1 = true ∨ b2 = true then 1 else 0) → Calls Try.prog 13 #[.int .u8 4, .float .f64 f] w (GotL w) := by
    intro b1 b2 e1 e2 e3
    cases b1 <;> cases b2
    all_goals
      simp at e3
      have HG' : ∀ u w', Good w' 94 u (numT f) → Good w' 94 u _ := fun u w' h => e3 ▸ h
      have HG := Lib.hid HG'
      clear e3 HG'
      go_enter Try.func13, Try.ntmps13
      go_wp2_with fail
      refine (num22 f _).mono ?_
      rintro e w1 ⟨u, rfl, hg, hb⟩
      have HH := Lib.hid (HG.out _ _ hg)
      have c0 : w1.cell? ⟨w.heap.size, 0, none⟩ = some .nilIface := by rw [hb.cell (p := ⟨w.heap.size, 0, none⟩) (by go_size)]; go_simp
      have c1 : w1.cell? ⟨w.heap.size, 1, none⟩ = some (.int .i32 0) := by rw [hb.cell (p := ⟨w.heap.size, 1, none⟩) (by go_size)]; go_simp
      have f0 : ∀ o, w1.frozen? ⟨w.heap.size, o, none⟩ = false := fun o => by rw [hb.frozen (p := ⟨w.heap.size, o, none⟩) (by go_size)]; go_simp
      have hr : RowAt w1 w.heap.size #[.nilIface, .int .i32 0] 32 := (RowAt.new w _ _).below hb (by go_size)
      have HR := Lib.hid hr
      have HB : Hid (Below w.heap.size w w1) := Below.trans (by go_grown) (hb.mono (by go_size))
      clear hg hb HG hr
      go_wp2_with fail
      have q0 : (w1.setCell ⟨w.heap.size, 0, none⟩ (.iface 94 (.pointer (some ⟨u, 0, none⟩)))).cell? ⟨w.heap.size, 0, none⟩ = some (.iface 94 (.pointer (some ⟨u, 0, none⟩))) := (HR.out.set 0 _).cellv rfl
      have q1 : ((w1.setCell ⟨w.heap.size, 0, none⟩ (.iface 94 (.pointer (some ⟨u, 0, none⟩)))).setCell ⟨w.heap.size, 1, none⟩ (.int .i32 0)).cell? ⟨w.heap.size, 1, none⟩ = some (.int .i32 0) := ((HR.out.set 0 _).set 1 _).cellv rfl
      first
        | exact bodyPost_ret (v := .tuple #[.agg #[.iface 94 (.pointer (some ⟨u, 0, none⟩)), .int .i32 0], .int .i8 1]) (by simp [results, Try.results13, go_sem, q0, q1]) rfl ⟨_, _, _, rfl, HH.out.kept ((KeptT.refl.set HR.out (.inl rfl) _).set (HR.out.set _ _) (.inl rfl) _), .inr (.inr rfl), (HB.out.setCell (Nat.le_refl _) _).setCell (Nat.le_refl _) _⟩
        | exact bodyPost_ret (v := .tuple #[.agg #[.iface 94 (.pointer (some ⟨u, 0, none⟩)), .int .i32 0], .int .i8 0]) (by simp [results, Try.results13, go_sem, q0, q1]) rfl ⟨_, _, _, rfl, HH.out.kept ((KeptT.refl.set HR.out (.inl rfl) _).set (HR.out.set _ _) (.inl rfl) _), .inr (.inl rfl), (HB.out.setCell (Nat.le_refl _) _).setCell (Nat.le_refl _) _⟩
  rcases float_cases f with ⟨h1, h2⟩ | ⟨h1, h2⟩ | ⟨h1, h2⟩ | ⟨h1, h2⟩
  · exact key false false (by rw [h1]; rfl) (by rw [h1]; rfl) (by simp [numT, h1])
  · exact key false false (by rw [h1]; rfl) (by rw [h1]; rfl) (by simp [numT, h1])
  · exact key true false (by rw [h1]; rfl) (by rw [h1]; rfl) (by simp [numT, h1])
  · exact key false true (by rw [h1]; rfl) (by rw [h1]; rfl) (by simp [numT, h1])
def Tri (t : Int) : Prop := t = -1 ∨ t = 0 ∨ t = 1
theorem not14 (t : Int) (w : World) (h : Tri t) : Calls Try.prog 14 #[.int .i8 t] w fun e w' => e = .returned (.int .i8 (tNot t)) ∧ w = w' := by
  rcases h with rfl | rfl | rfl
  all_goals
    go_enter Try.func14, Try.ntmps14
    go_wp2
    go_ret
    exact ⟨rfl, rfl⟩
theorem or15 (a b : Int) (w : World) (h : Tri a) (h' : Tri b) : Calls Try.prog 15 #[.int .i8 a, .int .i8 b] w fun e w' => e = .returned (.int .i8 (tOr a b)) ∧ w = w' := by
  rcases h with rfl | rfl | rfl <;> rcases h' with rfl | rfl | rfl
  all_goals
    go_enter Try.func15, Try.ntmps15
    go_wp2
    go_ret
    exact ⟨rfl, rfl⟩
theorem and16 (a b : Int) (w : World) (h : Tri a) (h' : Tri b) : Calls Try.prog 16 #[.int .i8 a, .int .i8 b] w fun e w' => e = .returned (.int .i8 (tAnd a b)) ∧ w = w' := by
  rcases h with rfl | rfl | rfl <;> rcases h' with rfl | rfl | rfl
  all_goals
    go_enter Try.func16, Try.ntmps16
    go_wp2
    go_ret
    exact ⟨rfl, rfl⟩
theorem cond17 (c y n : Int) (w : World) (h : Tri c) (h1 : Tri y) (h2 : Tri n) : Calls Try.prog 17 #[.int .i8 c, .int .i8 y, .int .i8 n] w fun e w' => e = .returned (.int .i8 (tCond c y n)) ∧ w = w' := by
  rcases h with rfl | rfl | rfl <;> rcases h1 with rfl | rfl | rfl <;> rcases h2 with rfl | rfl | rfl
  all_goals
    go_enter Try.func17, Try.ntmps17
    go_wp2
    go_ret
    exact ⟨rfl, rfl⟩
theorem tri_not {t : Int} (h : Tri t) : Tri (tNot t) := by rcases h with rfl | rfl | rfl <;> simp [Tri, tNot]
theorem tri_or {a b : Int} (h : Tri a) (h' : Tri b) : Tri (tOr a b) := by rcases h with rfl | rfl | rfl <;> rcases h' with rfl | rfl | rfl <;> simp [Tri, tOr]
theorem tri_and {a b : Int} (h : Tri a) (h' : Tri b) : Tri (tAnd a b) := by rcases h with rfl | rfl | rfl <;> rcases h' with rfl | rfl | rfl <;> simp [Tri, tAnd]
theorem tri_cond {a b c : Int} (h : Tri a) (h' : Tri b) (h'' : Tri c) : Tri (tCond a b c) := by rcases h with rfl | rfl | rfl <;> rcases h' with rfl | rfl | rfl <;> rcases h'' with rfl | rfl | rfl <;> simp [Tri, tCond]

end Go.Proofs.Ytmbbabikbmkjpab.fnToBooleanSoundAgainstJSTruthiness
