import Derived.Test.YtailfkedgdlldaaKit
import Derived.Test.YtailfkedgdlldaaIgB
import Derived.Test.YtailfkedgdlldaaUsD
namespace Go.Proofs.Ytailfkedgdlldaa
open Go.ChangeShapes Go.WideShapes Go.ChangeAt Go.RowKit
set_option linter.unusedVariables false
set_option maxRecDepth 100000
set_option maxHeartbeats 2000000

theorem St.other {w w' : World} {p S T q m n R : Nat} {dead ts part : Bool} {f g : Nat → Int} {F : Value → Option Value} {cnt : Nat} {cs : Array Value} {t : TypeId} (h : St w p S T q m n dead ts part f g F cnt) (hR : RowAt w R cs t) (ht : t ≠ 195 ∧ t ≠ 70 ∧ t ≠ 24 ∧ t ≠ 49) (hk : ∀ j, j ≠ R → w'.heap[j]? = w.heap[j]?) : St w' p S T q m n dead ts part f g F cnt := by
  obtain ⟨⟨cs0, h1⟩, h2, h3, h4⟩ := h
  have ⟨es, s1, _⟩ := h2
  refine ⟨⟨cs0, h1.row.kept (hk _ (fun e => hR.ne h1.row ht.1 e.symm)), h1.sym, h1.tsc, h1.dead, h1.ts, h1.part⟩, h2.kept (hk _ (fun e => hR.ne s1 ht.2.1 e.symm)), fun e => ?_, fun e => ?_⟩
  · have ⟨ds, t1, _⟩ := h3 e
    exact (h3 e).kept (hk _ (fun e => hR.ne t1 ht.2.2.1 e.symm))
  · obtain ⟨⟨us, h5, h6⟩, h7⟩ := h4 e
    exact ⟨⟨us, h5.kept (hk _ (fun e => hR.ne h5 ht.2.2.2 e.symm)), h6⟩, h7.kept (hk _ (fun e => hR.neMap h7 e.symm))⟩

theorem St.congrF {w : World} {p S T q m n : Nat} {dead ts part : Bool} {f g : Nat → Int} {F G : Value → Option Value} {cnt : Nat} (h : St w p S T q m n dead ts part f g F cnt) (e : ∀ v, IsPair v → F v = G v) : St w p S T q m n dead ts part f g G cnt := by
  obtain ⟨h1, h2, h3, h4⟩ := h
  exact ⟨h1, h2, h3, fun q => ⟨(h4 q).1, (h4 q).2.congr e⟩⟩

def f1 (dead : Bool) (f : Nat → Int) (k : Nat) : Nat → Int := if dead then f else updN f k (inc (f k))

/-- Between recording and ignoring: what ignoring gives back. -/
def Mid3 (w : World) (p S T q m n k : Nat) (dead ts part : Bool) (f g : Nat → Int) (F : Value → Option Value) (cnt : Nat) : Prop :=
  ∃ F1 cnt1, St w p S T q m n dead ts part (f1 dead f k) g F1 cnt1 ∧ ∀ W, St W p S T q m n dead ts part (f1 dead f k) g F1 cnt1 →
    Calls Try.prog 36 #[.pointer (some ⟨p, 0, none⟩), refV k] W (fun e w' => e = .returned (.tuple #[]) ∧ St w' p S T q m n dead ts part f g F cnt ∧ Fr (XX S T m) W w')

theorem updN_back (f : Nat → Int) (k n : Nat) (h0 : 0 ≤ f k) (h1 : f k ≤ 4294967295) (i : Nat) : updN (updN f k (inc (f k))) k (dec (updN f k (inc (f k)) k)) i = f i := by
  have e : updN f k (inc (f k)) k = inc (f k) := if_pos rfl
  rw [e, dec_inc _ h0 h1]
  unfold updN
  by_cases h : i = k
  · rw [if_pos h, h]
  · rw [if_neg h, if_neg h]

theorem rec29 (p S T q m n k : Nat) (dead part : Bool) (f g : Nat → Int) (F : Value → Option Value) (cnt : Nat) (x : Int) (w : World) (hk : k < n) (hn : n ≤ 65536) (h : St w p S T q m n dead false part f g F cnt)
    (hF : part = true → F (refV k) = if x = 0 then none else some (.agg #[.int .u32 x])) (hx0 : 0 ≤ x) (hx1 : x ≤ 4294967295) (hf0 : 0 ≤ f k) (hf1 : f k ≤ 4294967295) :
    Calls Try.prog 29 #[.pointer (some ⟨p, 0, none⟩), refV k] w fun e w' => e = .returned (.tuple #[]) ∧ Mid3 w' p S T q m n k dead false part f g F cnt ∧ Fr (XX S T m) w w' := by
  cases dead
  · cases part
    · refine (rec_live_none_no p S T q m n k f g F cnt w hk hn h).mono ?_
      rintro e w' ⟨he, hs, hf⟩
      refine ⟨he, ⟨F, cnt, hs, fun W hW => ?_⟩, hf⟩
      refine (ign_none p S T q m n k false _ g F cnt W hk hn hW).mono ?_
      rintro e w2 ⟨he, hs, hf⟩
      exact ⟨he, hs.congr (fun i _ => updN_back f k n hf0 hf1 i) (fun e => by cases e), hf⟩
    · have hF0 := hF rfl
      have hg : (F (refV k)).getD (.agg #[.int .u32 0]) = .agg #[.int .u32 x] := by
        rw [hF0]
        by_cases h0 : x = 0
        · rw [if_pos h0, h0]; rfl
        · rw [if_neg h0]; rfl
      refine (rec_live_part p S T q m n k false f g F cnt _ x w hk hn h hg rfl).mono ?_
      rintro e w' ⟨he, hs, hf⟩
      refine ⟨he, ⟨_, _, hs, fun W hW => ?_⟩, hf⟩
      have hsome : (putF F (refV k) (.agg #[.int .u32 (inc x)]) (refV k)) = some (.agg #[.int .u32 (inc x)]) := putF_same _ _ _
      refine (ign_part p S T q m n k false _ g _ _ _ _ (inc x) x W hk hn hW (by rw [hsome]; rfl) (dec_inc x hx0 hx1) rfl rfl).mono ?_
      rintro e w2 ⟨he, hs, hf⟩
      refine ⟨he, ?_, hf⟩
      have hs2 := (hs.congr (fun i _ => updN_back f k n hf0 hf1 i) (fun e => by cases e) (g' := g)).congrF (G := F) (fun v hv => ?_)
      · rw [hsome] at hs2
        have hc : ignC (if (F (refV k)).isSome then cnt else cnt + 1) (some (Value.agg #[.int .u32 (inc x)])).isSome x = cnt := by
          unfold ignC
          rw [hF0]
          by_cases h0 : x = 0
          · simp [h0]
          · simp [h0]
        rw [hc] at hs2
        exact hs2
      · unfold ignF
        by_cases h0 : x = 0
        · rw [if_pos h0]
          by_cases e : v = refV k
          · rw [e, delF_same, hF0, if_pos h0]
          · rw [delF_other _ e, putF_other _ _ e]
        · rw [if_neg h0]
          by_cases e : v = refV k
          · rw [e, putF_same, hF0, if_neg h0]
          · rw [putF_other _ _ e, putF_other _ _ e]
  · refine (rec_dead_no p S T q m n k part f g F cnt w hk h).mono ?_
    rintro e w' ⟨he, hs, hf⟩
    refine ⟨he, ⟨F, cnt, hs, fun W hW => ?_⟩, hf⟩
    exact ign_dead p S T q m n k false part f g F cnt W hk hW

theorem Mid3.later {w w' : World} {p S T q m n k : Nat} {dead ts part : Bool} {f g : Nat → Int} {F : Value → Option Value} {cnt : Nat} (h : Mid3 w p S T q m n k dead ts part f g F cnt) (hk : ∀ j, j < w.heap.size → w'.heap[j]? = w.heap[j]?) : Mid3 w' p S T q m n k dead ts part f g F cnt := by
  obtain ⟨F1, cnt1, h1, h2⟩ := h
  exact ⟨F1, cnt1, h1.later hk, h2⟩

theorem rec19 (p S T q m n k : Nat) (dead part : Bool) (f g : Nat → Int) (F : Value → Option Value) (cnt : Nat) (x : Int) (w : World) (hk : k < n) (hn : n ≤ 65536) (h : St w p S T q m n dead false part f g F cnt)
    (hF : part = true → F (refV k) = if x = 0 then none else some (.agg #[.int .u32 x])) (hx0 : 0 ≤ x) (hx1 : x ≤ 4294967295) (hf0 : 0 ≤ f k) (hf1 : f k ≤ 4294967295) :
    Calls Try.prog 19 #[.pointer (some ⟨p, 0, none⟩), refV k] w fun e w' => e = .returned (.tuple #[]) ∧ Mid3 w' p S T q m n k dead false part f g F cnt ∧ Fr (XX S T m) w w' := by
  have H := Lib.hid (fun W hW => rec29 p S T q m n k dead part f g F cnt x W hk hn hW hF hx0 hx1 hf0 hf1)
  have HS := Lib.hid h
  clear h hF
  show Calls Try.prog 19 #[.pointer (some ⟨p, 0, none⟩), .agg #[.int .u32 0, .int .u32 k]] w (fun e w' => e = .returned (.tuple #[]) ∧ Mid3 w' p S T q m n k dead false part f g F cnt ∧ Fr (XX S T m) w w')
  go_enter Try.func19, Try.ntmps19
  go_wp2_with fail
  refine (H.out _ (HS.out.later (fun j hj => Below.heap_alloc _ _ _ hj))).mono ?_
  rintro e w1 ⟨rfl, h1, h2⟩
  have H1 := Lib.hid h1
  have H2 := Lib.hid (((Fr.refl (X := XX S T m) (w := w)).alloc _).trans h2)
  clear h1 h2
  go_wp2_with fail
  go_end0
  exact ⟨rfl, H1.out, H2.out⟩

theorem chain30 (p S T q m n k c : Nat) (d : Value) (dead ts part : Bool) (f g : Nat → Int) (F : Value → Option Value) (cnt : Nat) (w : World) (h : Mid3 w p S T q m n k dead ts part f g F cnt) (hd : Ch w k c d) :
    Calls Try.prog 30 #[.pointer (some ⟨p, 0, none⟩), .agg #[d, .int .i32 0]] w fun e w' => e = .returned (.tuple #[]) ∧ St w' p S T q m n dead ts part f g F cnt ∧ Fr (XX S T m) w w' := by
  obtain ⟨F1, cnt1, h1, h2⟩ := h
  have HS := Lib.hid h1
  have HI := Lib.hid h2
  have HD := Lib.hid hd
  obtain ⟨U, u, rfl⟩ := hd.one
  clear h1 h2 hd
  go_enter Try.func30, Try.ntmps30
  go_wp2_with fail
  go_loopg [4, 5, 6, 7, 8] c (fun i v4 v5 v6 v7 v8 wr => ∃ d, Ch wr k i d ∧ RowAt wr w.heap.size #[d, .int .i32 0] 56 ∧ St wr p S T q m n dead ts part (f1 dead f k) g F1 cnt1 ∧ Fr (XX S T m) w wr)
  case atStart => exact ⟨_, HD.out.later (fun j hj => Below.heap_alloc _ _ _ hj), RowAt.new _ _ _, HS.out.later (fun j hj => Below.heap_alloc _ _ _ hj), Fr.refl.alloc _⟩
  case round =>
    obtain ⟨d, hC, hR, hS, hF⟩ := hrel
    clear HD HS
    have HSS := Lib.hid hS
    have HFF := Lib.hid hF
    have HRR := Lib.hid hR
    obtain ⟨U', u', hU⟩ := hC.one
    subst hU
    have r0 := hR.cellv (j := 0) (v := .iface U' (.pointer (some ⟨u', 0, none⟩))) rfl
    have r1 := hR.cellv (j := 1) (v := .int .i32 0) rfl
    have g0 := hR.frozen 0
    have g1 := hR.frozen 1
    have hlt := hR.lt
    clear hS hF hR
    cases gk with
    | zero =>
      obtain ⟨b, cs, e, hr, k0, k1⟩ := hC
      injection e with e1 e2
      injection e2 with e2
      injection e2 with e2
      injection e2 with e2 _
      subst e1 e2
      have c0 := hr.cellv k0
      have c1 := hr.cellv k1
      clear hr k0 k1
      go_wp2_with fail
      refine (HI.out _ HSS.out).mono ?_
      rintro e w1 ⟨rfl, h1, h2⟩
      have H1 := Lib.hid h1
      have H2 := Lib.hid (HFF.out.trans h2)
      clear h1 h2
      go_wp2_with fail
      exact bodyPost_ret (v := .tuple #[]) (by simp [results, Try.results30, go_sem]) rfl ⟨rfl, H1.out, H2.out⟩
    | succ i =>
      obtain ⟨b, cs, d', hd, k0, k1, hC'⟩ := hC
      obtain ⟨V, v, hV⟩ := hC'.one
      subst hV
      have HC := Lib.hid hC'
      clear hC'
      rcases hd with ⟨e, hr⟩ | ⟨e, hr, s, hs⟩
      · injection e with e1 e2
        injection e2 with e2
        injection e2 with e2
        injection e2 with e2 _
        subst e1 e2
        have c0 := hr.cellv k0
        have c1 := hr.cellv k1
        have ne : u' ≠ w.heap.size := hr.ne HRR.out (by decide)
        clear hr k0 k1
        go_wp2_with fail
        go_roundg i
        case measure => omega
        case rel => exact ⟨_, HC.out.kept fun j cs t hr ht => by
            have hne : j ≠ w.heap.size := hr.ne HRR.out (by rcases ht with rfl | rfl | rfl <;> decide)
            rw [Below.heap_setCell _ _ _ _ hne, Below.heap_setCell _ _ _ _ hne], (HRR.out.set 0 _).set 1 _, HSS.out.other HRR.out (by decide) (fun j hj => by rw [Below.heap_setCell _ _ _ _ hj, Below.heap_setCell _ _ _ _ hj]), (HFF.out.set (.inr (Nat.le_refl _))).set (.inr (Nat.le_refl _))⟩
      · injection e with e1 e2
        injection e2 with e2
        injection e2 with e2
        injection e2 with e2 _
        subst e1 e2
        have c0 := hr.cellv k0
        have c1 := hr.cellv k1
        have c2 := hr.cellv hs
        have ne : u' ≠ w.heap.size := hr.ne HRR.out (by decide)
        clear hr k0 k1 hs
        go_wp2_with fail
        go_roundg i
        case measure => omega
        case rel => exact ⟨_, HC.out.kept fun j cs t hr ht => by
            have hne : j ≠ w.heap.size := hr.ne HRR.out (by rcases ht with rfl | rfl | rfl <;> decide)
            rw [Below.heap_setCell _ _ _ _ hne, Below.heap_setCell _ _ _ _ hne], (HRR.out.set 0 _).set 1 _, HSS.out.other HRR.out (by decide) (fun j hj => by rw [Below.heap_setCell _ _ _ _ hj, Below.heap_setCell _ _ _ _ hj]), (HFF.out.set (.inr (Nat.le_refl _))).set (.inr (Nat.le_refl _))⟩

end Go.Proofs.Ytailfkedgdlldaa
