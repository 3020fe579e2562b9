import Derived.Test.YtfmfniddnlpkmaaDoorKit
import Derived.Test.YtfmfniddnlpkmaaDoorViB
import Derived.Deep.RegionLaw
import Derived.Deep.RegionLawGrows
import Derived.Deep.AppendLies
import Derived.Maps.AppendAt
namespace Go.Proofs.YtfmfniddnlpkmaaDoor
open Go.ChangeShapes Go.WideShapes Go.ChangeAt Go.RowKit
set_option linter.unusedVariables false
set_option maxRecDepth 100000
set_option maxHeartbeats 2000000

/-- The symbol is there; the reference that the parser keeps, and what the module's scope lists, are m0, m1 and gv. -/
def StG (w : World) (B p : Nat) (src un mode fmt : Int) (n : Nat) (ts : Bool) (j : Nat) (m0 m1 : Int) (gv : Value) : Prop :=
  ∃ cs M ms S c ds vt, RowAt w p cs 184 ∧ PC cs src un mode fmt ts (.slice (some ⟨S, 0, none⟩) (n + 1) c) vt M m0 m1 ∧ RowAt w M ms 198 ∧ ms[5]? = some gv ∧
    RowAt w S ds 59 ∧ ds[n * 10 + 4]? = some (.int .u32 j) ∧ (ts = true → ∃ U uc us x, vt = .slice (some ⟨U, 0, none⟩) (n + 1) uc ∧ RowAt w U us 23 ∧ us[n]? = some (.int .u32 x) ∧ B ≤ U) ∧ B ≤ p ∧ B ≤ M ∧ B ≤ S
/-- Rows of locations, of expressions and of identifiers stay. -/
def Kp (w w' : World) : Prop := ∀ b es t, RowAt w b es t → (t = 36 ∨ t = 38 ∨ t = 205) → RowAt w' b es t
theorem Kp.of_below {w w' : World} (hb : Below w.heap.size w w') : Kp w w' := fun b es t h _ => h.below hb h.lt
theorem Kp.trans {w w' w'' : World} (h : Kp w w') (g : Kp w' w'') : Kp w w'' := fun b es t hr ht => g b es t (h b es t hr ht) ht
theorem Kp.set {w w' : World} (h : Kp w w') {b o : Nat} {cs : Array Value} {E : TypeId} (hr : RowAt w' b cs E) (hE : E ≠ 36 ∧ E ≠ 38 ∧ E ≠ 205) (v : Value) : Kp w (w'.setCell ⟨b, o, none⟩ v) := fun b' es t h0 ht => by
  have h1 := h b' es t h0 ht
  refine h1.set_other (h1.ne hr ?_) _ _
  rcases ht with rfl | rfl | rfl
  · exact fun e => hE.1 e.symm
  · exact fun e => hE.2.1 e.symm
  · exact fun e => hE.2.2 e.symm
def Sym35 (B p : Nat) (src un mode fmt : Int) (n : Nat) (ts : Bool) (w : World) (e : Ending) (w' : World) : Prop := e = .returned (.agg #[.int .u32 src, .int .u32 n]) ∧ StG w' B p src un mode fmt n ts 0 4294967295 4294967295 (.slice none 0 0) ∧ Below B w w' ∧ Kp w w'
def nmMeta : ByteArray := ⟨#[105, 109, 112, 111, 114, 116, 95, 109, 101, 116, 97]⟩

theorem store_far {u : World} {a q i : Nat} (hn : a ≠ q) (j : Nat) (y : Value) : (u.setCell ⟨q, j, none⟩ y).cell? ⟨a, i, none⟩ = u.cell? ⟨a, i, none⟩ := World.cell?_setCell_other _ _ _ _ (fun e => hn (by injection e with e; exact e.symm))
theorem cell_list {W : World} {g : Nat} {l : List Value} {t : TypeId} (h : RowAt W g l.toArray t) : ∀ j u, l[j]? = some u → W.cell? ((⟨g, 0, none⟩ : Addr).add j) = some u := by
  intro j u hu
  rw [addr_add, Nat.zero_add]
  exact h.cellv (by simpa using hu)
theorem grown_cell {w w' : World} {row : Option Nat} (h : w.grownBy w' row) {b k : Nat} (hne : some b ≠ row) (hlt : b < w.heap.size) : w'.cell? ⟨b, k, none⟩ = w.cell? ⟨b, k, none⟩ := by
  have := h.block b hlt hne
  unfold World.cell?
  simp only [this]
theorem StA.below {w w' : World} {B p n : Nat} {src un mode fmt : Int} {ts : Bool} (h : StA w B p src un mode fmt n ts) (hb : Below w.heap.size w w') : StA w' B p src un mode fmt n ts := by
  obtain ⟨cs, M, ms, S, xs, vt, rp, pc, rm, m5, ho, hu, bp, bm⟩ := h
  refine ⟨cs, M, ms, S, xs, vt, rp.below hb rp.lt, pc, rm.below hb rm.lt, m5, own_kept ho fun g hg => ?_, fun e => ?_, bp, bm⟩
  · obtain ⟨⟨es, e1⟩, _⟩ := own_row ho hg
    exact hb.block g e1.lt
  · obtain ⟨us, hu⟩ := hu e
    refine ⟨us, own_kept hu fun g hg => ?_⟩
    obtain ⟨⟨es, e1⟩, _⟩ := own_row hu hg
    exact hb.block g e1.lt

theorem StG.set51 {w : World} {B p n j b o : Nat} {src un mode fmt m0 m1 : Int} {ts : Bool} {gv v : Value} {es : Array Value} (h : StG w B p src un mode fmt n ts j m0 m1 gv) (hr : RowAt w b es 51) : StG (w.setCell ⟨b, o, none⟩ v) B p src un mode fmt n ts j m0 m1 gv := by
  obtain ⟨cs, M, ms, S, c, ds, vt, rp, pc, rm, m5, rs, hd, hu, bp, bm, bs⟩ := h
  refine ⟨cs, M, ms, S, c, ds, vt, rp.set_other (rp.ne hr (by decide)) _ _, pc, rm.set_other (rm.ne hr (by decide)) _ _, m5, rs.set_other (rs.ne hr (by decide)) _ _, hd, fun e => ?_, bp, bm, bs⟩
  obtain ⟨U, uc, us, x, h1, h2, h3, h4⟩ := hu e
  exact ⟨U, uc, us, x, h1, h2.set_other (h2.ne hr (by decide)) _ _, h3, h4⟩
theorem StG.below {w w' : World} {B p n j : Nat} {src un mode fmt m0 m1 : Int} {ts : Bool} {gv : Value} (h : StG w B p src un mode fmt n ts j m0 m1 gv) (hb : Below w.heap.size w w') : StG w' B p src un mode fmt n ts j m0 m1 gv := by
  obtain ⟨cs, M, ms, S, c, ds, vt, rp, pc, rm, m5, rs, hd, hu, bp, bm, bs⟩ := h
  refine ⟨cs, M, ms, S, c, ds, vt, rp.below hb rp.lt, pc, rm.below hb rm.lt, m5, rs.below hb rs.lt, hd, fun e => ?_, bp, bm, bs⟩
  obtain ⟨U, uc, us, x, h1, h2, h3, h4⟩ := hu e
  exact ⟨U, uc, us, x, h1, h2.below hb h2.lt, h3, h4⟩
theorem PC.sym {cs : Array Value} {src un mode fmt m0 m1 : Int} {ts : Bool} {vs vt v : Value} {M : Nat} (h : PC cs src un mode fmt ts vs vt M m0 m1) : PC (cs.setIfInBounds 106 v) src un mode fmt ts v vt M m0 m1 := by
  have hz : 106 < cs.size := (Array.getElem?_eq_some_iff.1 h.c106).1
  exact ⟨set_ne (by decide) h.c23, set_ne (by decide) h.c32, set_ne (by decide) h.c34, set_ne (by decide) h.c36, set_ne (by decide) h.c66, set_ne (by decide) h.c105, set_eq hz, set_ne (by decide) h.c108, set_ne (by decide) h.c187, set_ne (by decide) h.c298, set_ne (by decide) h.c299, set_ne (by decide) h.c350⟩
theorem PC.use {cs : Array Value} {src un mode fmt m0 m1 : Int} {ts : Bool} {vs vt v : Value} {M : Nat} (h : PC cs src un mode fmt ts vs vt M m0 m1) : PC (cs.setIfInBounds 108 v) src un mode fmt ts vs v M m0 m1 := by
  have hz : 108 < cs.size := (Array.getElem?_eq_some_iff.1 h.c108).1
  exact ⟨set_ne (by decide) h.c23, set_ne (by decide) h.c32, set_ne (by decide) h.c34, set_ne (by decide) h.c36, set_ne (by decide) h.c66, set_ne (by decide) h.c105, set_ne (by decide) h.c106, set_eq hz, set_ne (by decide) h.c187, set_ne (by decide) h.c298, set_ne (by decide) h.c299, set_ne (by decide) h.c350⟩

/-- What an append of the symbol leaves. -/
structure Aft (w W3 : World) (B p M g n : Nat) (ts : Bool) (cs ms : Array Value) (V vt src : Value) (nv : Value) : Prop where
  rp : RowAt W3 p (cs.setIfInBounds 106 V) 184
  rm : RowAt W3 M ms 198
  rs : ∃ ds, RowAt W3 g ds 59 ∧ ds[n * 10 + 4]? = some (.int .u32 0) ∧ B ≤ g
  hu : ts = true → ∃ us, W3.ownsRow B 23 1 vt n us
  a3 : RowAt W3 w.heap.size #[.int .u32 0, .int .u32 0] 51
  a4 : RowAt W3 (w.heap.size + 1) #[src, nv] 51
  b3 : Below B w W3
  k3 : Kp w W3
theorem own_cell {w : World} {B n g m cap size : Nat} {e : TypeId} {xs : List Value} (h : w.ownsRow B e size (.slice (some ⟨g, 0, none⟩) m cap) n xs) : ∃ cur, RowAt w g cur e ∧ B ≤ g ∧ ∀ i, i < n * size → cur[i]? = xs[i]? := by
  rcases h.2 with ⟨e, _⟩ | ⟨g', cap', cur, hv, hb, hh, _, _, _, h4⟩
  · cases e
  · cases hv
    refine ⟨cur, hh, hb, fun i hi => ?_⟩
    have this : (cur.toList.take (n * size))[i]? = xs[i]? := congrArg (fun l => l[i]?) h4
    rw [List.getElem?_take_of_lt hi, Array.getElem?_toList] at this
    exact this
theorem own_len {w : World} {B n size : Nat} {e : TypeId} {v : Value} {xs : List Value} (h : w.ownsRow B e size v n xs) : xs.length = n * size := h.1
theorem sym_after {w W W' w2 : World} {B p M S g n cap : Nat} {ts : Bool} {cs ms : Array Value} {xs : List Value} {vt src nv s1 i1 i2 : Value} (rp : RowAt W p cs 184) (rm : RowAt W M ms 198) (ho : W.ownsRow B 59 10 (.slice (some ⟨S, 0, none⟩) n n) n xs)
    (hu : ts = true → ∃ us, W.ownsRow B 23 1 vt n us) (a3 : RowAt W w.heap.size #[.int .u32 0, .int .u32 0] 51) (a4 : RowAt W (w.heap.size + 1) #[src, nv] 51) (hb : Below w.heap.size w W) (hB : B ≤ w.heap.size) (bp : B ≤ p)
    (hW' : Below W.heap.size W W') (hg : W'.grownBy w2 (Value.slice (some ⟨S, 0, none⟩) n n).ownBlock)
    (ho2 : w2.ownsRow B 59 10 (.slice (some ⟨g, 0, none⟩) (n + 1) cap) (n + 1) (xs ++ [.pointer none, s1, i1, i2, .int .u32 0, .int .u32 0, .int .u32 0, .int .u16 0, .int .u8 27, .int .u8 0])) :
    Aft w (w2.setCell ⟨p, 106, none⟩ (.slice (some ⟨g, 0, none⟩) (n + 1) cap)) B p M g n ts cs ms (.slice (some ⟨g, 0, none⟩) (n + 1) cap) vt src nv := by
  have hown : ∀ b, some b = (Value.slice (some ⟨S, 0, none⟩) n n).ownBlock → (∃ es, RowAt W b es 59) ∧ B ≤ b := fun b e => own_row ho e.symm
  have kp : ∀ {b : Nat} {es : Array Value} {t : TypeId}, RowAt W b es t → t ≠ 59 → RowAt w2 b es t := fun {b es t} hr ht => by
    refine ((hg.block b (Nat.lt_of_lt_of_le hr.lt hW'.size) fun e => ?_).trans (hW'.block b hr.lt)).trans hr
    obtain ⟨⟨es', h'⟩, _⟩ := hown b e
    exact hr.ne h' ht rfl
  have rp2 := kp rp (by decide)
  obtain ⟨cur, hr, hbg, hx⟩ := own_cell ho2
  refine ⟨rp2.set 106 _, (kp rm (by decide)).set_other (rm.ne rp (by decide)) _ _, ⟨cur, hr.set_other (hr.ne rp2 (by decide)) _ _, ?_, hbg⟩, fun e => ?_, (kp a3 (by decide)).set_other (a3.ne rp (by decide)) _ _, (kp a4 (by decide)).set_other (a4.ne rp (by decide)) _ _, ?_, fun b es t hr ht => ?_⟩
  · rw [hx _ (by omega), List.getElem?_append_right (by rw [own_len ho]; omega), own_len ho]
    rw [show n * 10 + 4 - n * 10 = 4 by omega]
    rfl
  · obtain ⟨us, h⟩ := hu e
    refine ⟨us, own_kept h fun b hbb => ?_⟩
    obtain ⟨⟨es, h1⟩, _⟩ := own_row h hbb
    have h2 := kp h1 (by decide)
    rw [heap_set (h1.ne rp (by decide))]
    exact (show RowAt w2 b es 23 from h2).trans (show RowAt W b es 23 from h1).symm
  · refine Below.setCell ?_ bp _
    refine Below.grown ((hb.mono hB).trans (hW'.mono (Nat.le_trans hB hb.size))) hg ?_ ?_
    · exact Nat.le_trans hB (Nat.le_trans hb.size hW'.size)
    · exact fun b e => (hown b e.symm).2
  · have h0 := hr.below hb hr.lt
    refine (kp h0 (by rcases ht with rfl | rfl | rfl <;> decide)).set_other (h0.ne rp (by rcases ht with rfl | rfl | rfl <;> decide)) _ _

theorem own_slice {w : World} {B n size : Nat} {e : TypeId} {v : Value} {xs : List Value} (h : w.ownsRow B e size v (n + 1) xs) : ∃ g cap, v = .slice (some ⟨g, 0, none⟩) (n + 1) cap := by
  rcases h.2 with ⟨_, hx⟩ | ⟨g, cap, cur, hv, _⟩
  · omega
  · exact ⟨g, cap, hv⟩
theorem kept_row {W3 w4 : World} {B n b : Nat} {e t : TypeId} {size : Nat} {v : Value} {us : List Value} {o : Obj} {es : Array Value} (hu : W3.ownsRow B e size v n us) (hg4 : (W3.alloc o).grownBy w4 v.ownBlock) (hr : RowAt W3 b es t) (ht : t ≠ e) : RowAt w4 b es t := by
  refine ((hg4.block b (by have := hr.lt; simp; omega) fun e => ?_).trans (Below.heap_alloc _ _ _ hr.lt)).trans hr
  obtain ⟨⟨es', h'⟩, _⟩ := own_row hu e.symm
  exact hr.ne h' ht rfl

set_option maxHeartbeats 8000000 in
theorem sym35 (B p : Nat) (src un mode fmt : Int) (n : Nat) (ts : Bool) (w : World) (hn : n ≤ 4096) (hI : IR w) (hB0 : 0 < B) (hB : B ≤ w.heap.size) (h : StA w B p src un mode fmt n ts) :
    Calls Tryd.prog 35 #[.pointer (some ⟨p, 0, none⟩), .int .u8 27, .string nmMeta] w (Sym35 B p src un mode fmt n ts w) := by
  obtain ⟨i0, hi, hz0, hz1, hz2⟩ := info_parts info59
  obtain ⟨j0, gi, gz0, gz1, gz2⟩ := info_parts info23
  obtain ⟨cs, M, ms, S, xs, vt, rp, pc, rm, m5, ho, hu, bp, bm⟩ := id h
  have c66 := rp.cellv pc.c66
  have c106 := rp.cellv pc.c106
  have zp := rp.lt
  obtain ⟨g0, g1⟩ := id hI
  have zI : 0 < w.heap.size := cell_lt hI.1
  have HIR := Lib.hid hI
  have HP0 := Lib.hid rp
  have HPC := Lib.hid pc
  have HM0 := Lib.hid rm
  have HM5 := Lib.hid m5
  have HO0 := Lib.hid ho
  have HU0 := Lib.hid hu
  clear rp pc rm m5 ho hu h hI
  go_enter Tryd.func35, Tryd.ntmps35
  go_wp2_with fail
  go_region
  go_wp2_with fail
  clear c66 c106 zp g0 g1
  have hbw : Below w.heap.size w (((w.alloc (.cells #[.int .u32 0, .int .u32 0] 51)).alloc (.cells #[.int .u32 src, .int .u32 n] 51)).drew) := (((Below.refl _ _).alloc (Nat.le_refl _) _).alloc (by simp) _).drew
  have rp := HP0.out.below hbw HP0.out.lt
  have rm := HM0.out.below hbw HM0.out.lt
  have ho := own_kept HO0.out fun g hg => by
    obtain ⟨⟨es, e1⟩, _⟩ := own_row HO0.out hg
    exact hbw.block g e1.lt
  have hu : ts = true → ∃ us, (((w.alloc (.cells #[.int .u32 0, .int .u32 0] 51)).alloc (.cells #[.int .u32 src, .int .u32 n] 51)).drew).ownsRow B 23 1 vt n us := fun e => by
    obtain ⟨us, hu⟩ := HU0.out e
    refine ⟨us, own_kept hu fun g hg => ?_⟩
    obtain ⟨⟨es, e1⟩, _⟩ := own_row hu hg
    exact hbw.block g e1.lt
  have A2 := HIR.out.below hbw
  have A3 : RowAt (((w.alloc (.cells #[.int .u32 0, .int .u32 0] 51)).alloc (.cells #[.int .u32 src, .int .u32 n] 51)).drew) w.heap.size #[.int .u32 0, .int .u32 0] 51 := (RowAt.new w _ _).alloc _
  have A4 : RowAt (((w.alloc (.cells #[.int .u32 0, .int .u32 0] 51)).alloc (.cells #[.int .u32 src, .int .u32 n] 51)).drew) (w.heap.size + 1) #[.int .u32 src, .int .u32 n] 51 := RowAt.newAt (by simp)
  clear HP0 HM0 HO0 HU0 HIR
  generalize hW : ((w.alloc (.cells #[.int .u32 0, .int .u32 0] 51)).alloc (.cells #[.int .u32 src, .int .u32 n] 51)).drew = W at rp rm ho hu A2 A3 A4 hbw ⊢
  clear hW
  have c106 := rp.cellv HPC.out.c106
  have f106 := rp.frozen 106
  have zp := rp.lt
  obtain ⟨g0, g1⟩ := id A2
  have zI2 : 0 < W.heap.size := cell_lt A2.1
  have z7 := A4.lt
  have HBW : Hid (B ≤ W.heap.size) := Nat.le_trans hB (by omega)
  have HA : Hid (((W.alloc (.cells #[.pointer none, .string nmMeta, .int .u32 4294967295, .int .u32 4294967295, .int .u32 0, .int .u32 0, .int .u32 0, .int .u16 0, .int .u8 27, .int .u8 0] 59)).drew).ownsRow B 59 10 (.slice (some ⟨S, 0, none⟩) n n) n xs) := own_kept ho fun g hg => by
    obtain ⟨⟨es, e1⟩, _⟩ := own_row ho hg
    exact Below.heap_alloc _ _ _ e1.lt
  have HNW : Hid (∀ j u, ([.pointer none, .string nmMeta, .int .u32 4294967295, .int .u32 4294967295, .int .u32 0, .int .u32 0, .int .u32 0, .int .u16 0, .int .u8 27, .int .u8 0] : List Value)[j]? = some u → ((W.alloc (.cells #[.pointer none, .string nmMeta, .int .u32 4294967295, .int .u32 4294967295, .int .u32 0, .int .u32 0, .int .u32 0, .int .u16 0, .int .u8 27, .int .u8 0] 59)).drew).cell? ((⟨W.heap.size, 0, none⟩ : Addr).add j) = some u) := cell_list (t := 59) (RowAt.newAt (W := W) rfl)
  have HNP : Hid ((Value.slice (some ⟨S, 0, none⟩) n n).ownBlock ≠ some p) := fun e => by
    obtain ⟨⟨es, e1⟩, _⟩ := own_row ho e
    exact e1.ne rp (by decide) rfl
  have HNI : Hid (some 0 ≠ (Value.slice (some ⟨S, 0, none⟩) n n).ownBlock) := fun e => by
    have := (own_row ho e.symm).2
    omega
  have HIW : Hid (IR ((W.alloc (.cells #[.pointer none, .string nmMeta, .int .u32 4294967295, .int .u32 4294967295, .int .u32 0, .int .u32 0, .int .u32 0, .int .u16 0, .int .u8 27, .int .u8 0] 59)).drew)) := A2.below ((Below.refl _ _).alloc (Nat.le_refl _) _).drew
  have HPR := Lib.hid rp
  have HA2 := Lib.hid A2
  have HA3 := Lib.hid A3
  have HA4 := Lib.hid A4
  have HRM := Lib.hid rm
  have HU := Lib.hid hu
  have HOW := Lib.hid ho
  have HBB := Lib.hid hbw
  have hnp : (0 : Nat) ≠ p := by omega
  have c106d : (W.alloc (.cells #[.pointer none, .string nmMeta, .int .u32 4294967295, .int .u32 4294967295, .int .u32 0, .int .u32 0, .int .u32 0, .int .u16 0, .int .u8 27, .int .u8 0] 59)).cell? ⟨p, 106, none⟩ = some (.slice (some ⟨S, 0, none⟩) n n) := (rp.alloc _).cellv HPC.out.c106
  clear A2 A3 A4 rp rm ho hu hbw
  refine wp_region_held_drew (S := fun w' => w'.cell? ⟨0, 0, none⟩ = some (.int .u32 4294967295) ∧ w'.cell? ⟨0, 1, none⟩ = some (.int .u32 4294967295)) (by kernel_rfl) (by go_keep) (fun hHeld => ?_)
  refine wpAnyH_take (i := 0) (v := ?_) rfl (by kernel_rfl) (by kernel_rfl) (by kernel_rfl) (fun _ _ _ h => h) (Or.inl ⟨by rfl, ?_⟩) (by assumption) ?_
  rotate_left
  · (intro w' hSw; (try dsimp only at hSw); go_simp; with_reducible rfl)
  try simp only [List.getElem_toArray, List.getElem_cons_zero, List.getElem_cons_succ, Act.put, List.setIfInBounds_toArray, List.set_cons_zero, List.set_cons_succ]
  refine wpAnyH_take (i := 1) (v := ?_) rfl (by kernel_rfl) (by kernel_rfl) (by kernel_rfl) (fun _ _ _ h => h) (Or.inl ⟨by rfl, ?_⟩) (by assumption) ?_
  rotate_left
  · (intro w' hSw; (try dsimp only at hSw); go_simp; with_reducible rfl)
  try simp only [List.getElem_toArray, List.getElem_cons_zero, List.getElem_cons_succ, Act.put, List.setIfInBounds_toArray, List.set_cons_zero, List.set_cons_succ]
  refine wpAnyH_take (i := 2) (v := ?_) rfl (by kernel_rfl) (by kernel_rfl) (by kernel_rfl) (fun _ _ _ h => h) (Or.inl ⟨by rfl, ?_⟩) (by assumption) ?_
  rotate_left
  · (intro w' hSw; (try dsimp only at hSw); go_simp; with_reducible rfl)
  try simp only [List.getElem_toArray, List.getElem_cons_zero, List.getElem_cons_succ, Act.put, List.setIfInBounds_toArray, List.set_cons_zero, List.set_cons_succ]
  refine wpAnyH_take (i := 3) (v := ?_) rfl (by kernel_rfl) (by kernel_rfl) (by kernel_rfl) (fun _ _ _ h => h) (Or.inl ⟨by rfl, ?_⟩) (by assumption) ?_
  rotate_left
  · (intro w' hSw; (try dsimp only at hSw); go_simp; with_reducible rfl)
  try simp only [List.getElem_toArray, List.getElem_cons_zero, List.getElem_cons_succ, Act.put, List.setIfInBounds_toArray, List.set_cons_zero, List.set_cons_succ]
  refine wpAnyH_take (i := 5) (v := ?_) rfl (by kernel_rfl) (by kernel_rfl) (by kernel_rfl) (fun _ _ _ h => h) (Or.inl ⟨by rfl, ?_⟩) (by assumption) ?_
  rotate_left
  · (intro w' hSw; (try dsimp only at hSw); go_simp; with_reducible rfl)
  try simp only [List.getElem_toArray, List.getElem_cons_zero, List.getElem_cons_succ, Act.put, List.setIfInBounds_toArray, List.set_cons_zero, List.set_cons_succ]
  refine wpAnyH_take (i := 6) (v := ?_) rfl (by kernel_rfl) (by kernel_rfl) (by kernel_rfl) (fun _ _ _ h => h) (Or.inl ⟨by rfl, ?_⟩) (by assumption) ?_
  rotate_left
  · (intro w' hSw; (try dsimp only at hSw); go_simp; with_reducible rfl)
  try simp only [List.getElem_toArray, List.getElem_cons_zero, List.getElem_cons_succ, Act.put, List.setIfInBounds_toArray, List.set_cons_zero, List.set_cons_succ]
  refine wpAnyH_take (i := 7) (v := ?_) rfl (by kernel_rfl) (by kernel_rfl) (by kernel_rfl) (fun _ _ _ h => h) (Or.inl ⟨by rfl, ?_⟩) (by assumption) ?_
  rotate_left
  · (intro w' hSw; (try dsimp only at hSw); go_simp; with_reducible rfl)
  try simp only [List.getElem_toArray, List.getElem_cons_zero, List.getElem_cons_succ, Act.put, List.setIfInBounds_toArray, List.set_cons_zero, List.set_cons_succ]
  refine wpAnyH_take (i := 8) (v := ?_) rfl (by kernel_rfl) (by kernel_rfl) (by kernel_rfl) (fun _ _ _ h => h) (Or.inl ⟨by rfl, ?_⟩) (by assumption) ?_
  rotate_left
  · (intro w' hSw; (try dsimp only at hSw); go_simp; with_reducible rfl)
  try simp only [List.getElem_toArray, List.getElem_cons_zero, List.getElem_cons_succ, Act.put, List.setIfInBounds_toArray, List.set_cons_zero, List.set_cons_succ]
  refine wpAnyH_ready (rs := [4, 9]) (by kernel_rfl) (by simp) ?_
  refine AllReadyH.cons rfl (fun K hK => ?_) (AllReadyH.cons rfl (fun K hK => ?_) AllReadyH.nil)
  · simp only [List.getElem_toArray, List.getElem_cons_zero, List.getElem_cons_succ]
    go_simp
    refine hK.out _ _ (by go_keep) (fun hHeld => ?_)
    clear hK K
    try simp only [List.getElem_toArray, List.getElem_cons_zero, List.getElem_cons_succ, Act.put, List.setIfInBounds_toArray, List.set_cons_zero, List.set_cons_succ]
    refine wpAnyH_ready (rs := [9]) (by kernel_rfl) (by simp) ?_
    refine AllReadyH.cons rfl (fun K hK => ?_) AllReadyH.nil
    simp only [List.getElem_toArray, List.getElem_cons_zero, List.getElem_cons_succ]
    go_simp
    refine hK.out _ _ (by go_keep) (fun hHeld => ?_)
    clear hK K
    try simp only [List.getElem_toArray, List.getElem_cons_zero, List.getElem_cons_succ, Act.put, List.setIfInBounds_toArray, List.set_cons_zero, List.set_cons_succ]
    refine wpAnyH_ready (rs := [10]) (by kernel_rfl) (by simp) ?_
    refine AllReadyH.cons rfl (fun K hK => ?_) AllReadyH.nil
    refine step_append_lies _ (by rfl) _ _ _ (by rfl) B 59 i0 _ 10 48 Tryd.underlying44 hi hz0 hz1 hz2 rfl (by decide) (.slice (some ⟨S, 0, none⟩) n n) n xs (by rfl) HA.out ⟨W.heap.size, 0, none⟩ 1 1 [.pointer none, .string nmMeta, .int .u32 4294967295, .int .u32 4294967295, .int .u32 0, .int .u32 0, .int .u32 0, .int .u16 0, .int .u8 27, .int .u8 0] (by rfl) (by rfl) HNW.out (by simp [Value.oneCell']) (by decide) (by unfold maxLen; omega) (by omega) (by have := HBW.out; simp; omega) (W.heap.size + 1) (by simp) ?_
    intro g cap w2 hown2 hgrow hat2 hlt2
    have p2' : RowAt w2 p cs 184 := (hgrow.block p (by have := HPR.out.lt; simp; omega) (fun e => HNP.out e.symm)).trans (HPR.out.alloc _)
    have i2' : IR w2 := ⟨(grown_cell hgrow HNI.out (by simp)).trans HIW.out.1, (grown_cell hgrow HNI.out (by simp)).trans HIW.out.2⟩
    have g2 := p2'.frozen 106
    have g3 := p2'.cellv HPC.out.c106
    have HO2 := Lib.hid hown2
    have HGR := Lib.hid hgrow
    clear hown2 hat2 hgrow
    refine hK.out _ _ ⟨i2'.1, i2'.2⟩ (fun hHeld => ?_)
    clear hK K
    try simp only [List.getElem_toArray, List.getElem_cons_zero, List.getElem_cons_succ, Act.put, List.setIfInBounds_toArray, List.set_cons_zero, List.set_cons_succ]
    refine wpAnyH_take (i := 11) (v := ?_) rfl (by kernel_rfl) (by kernel_rfl) (by kernel_rfl) (fun _ _ _ h => h) (Or.inl ⟨by rfl, ?_⟩) (by assumption) ?_
    rotate_left
    · (intro w' hSw; (try dsimp only at hSw); go_simp; with_reducible rfl)
    try simp only [List.getElem_toArray, List.getElem_cons_zero, List.getElem_cons_succ, Act.put, List.setIfInBounds_toArray, List.set_cons_zero, List.set_cons_succ]
    refine wpAnyH_take (i := 12) (v := ?_) rfl (by kernel_rfl) (by kernel_rfl) (by kernel_rfl) (fun _ _ _ h => h) (Or.inl ⟨by rfl, ?_⟩) (by assumption) ?_
    rotate_left
    · (intro w' hSw; (try dsimp only at hSw); go_simp; with_reducible rfl)
    try simp only [List.getElem_toArray, List.getElem_cons_zero, List.getElem_cons_succ, Act.put, List.setIfInBounds_toArray, List.set_cons_zero, List.set_cons_succ]
    refine wpAnyH_ready (rs := [13]) (by kernel_rfl) (by simp) ?_
    refine AllReadyH.cons rfl (fun K hK => ?_) AllReadyH.nil
    simp only [List.getElem_toArray, List.getElem_cons_zero, List.getElem_cons_succ]
    go_simp
    refine hK.out _ _ ⟨(store_far hnp _ _).trans i2'.1, (store_far hnp _ _).trans i2'.2⟩ (fun hHeld => ?_)
    clear hK K
    try simp only [List.getElem_toArray, List.getElem_cons_zero, List.getElem_cons_succ, Act.put, List.setIfInBounds_toArray, List.set_cons_zero, List.set_cons_succ]
    refine wpAnyH_done (by kernel_rfl) ?_ _
    have F : Aft w (w2.setCell ⟨p, 106, none⟩ (.slice (some ⟨g, 0, none⟩) (n + 1) cap)) B p M g n ts cs ms (.slice (some ⟨g, 0, none⟩) (n + 1) cap) vt (.int .u32 src) (.int .u32 n) := sym_after HPR.out HRM.out HOW.out HU.out HA3.out HA4.out HBB.out hB bp ((Below.refl _ _).alloc (Nat.le_refl _) _).drew HGR.out HO2.out
    generalize hW3 : w2.setCell ⟨p, 106, none⟩ (.slice (some ⟨g, 0, none⟩) (n + 1) cap) = W3 at F hHeld ⊢
    clear hW3 hHeld c106 f106 c106d HA HNW HNP HNI HIW HPR HA2 HA3 HA4 HRM HU HOW HBB HO2 HGR p2' i2' g2 g3 g0 g1 HBW
    obtain ⟨rp3, rm3, ⟨ds, rs3, hd3, bg⟩, hu3, a3, a4, b3, k3⟩ := F
    have hpc := HPC.out.sym (v := .slice (some ⟨g, 0, none⟩) (n + 1) cap)
    have c32 := rp3.cellv hpc.c32
    have c108 := rp3.cellv hpc.c108
    have f108 := rp3.frozen 108
    have e0 := a4.cellv (j := 0) (v := .int .u32 src) rfl
    have e1 := a4.cellv (j := 1) (v := .int .u32 n) rfl
    have d0 := a3.cellv (j := 0) (v := .int .u32 0) rfl
    have d1 := a3.cellv (j := 1) (v := .int .u32 0) rfl
    have fd := a3.frozen
    have y6 := a3.lt
    have y7 := a4.lt
    have yp := rp3.lt
    have HB3 := Lib.hid b3
    have K3 := Lib.hid k3
    have HR3 := Lib.hid rp3
    have HM3 := Lib.hid rm3
    have HS3 := Lib.hid rs3
    have HD3 := Lib.hid hd3
    have HA3 := Lib.hid a3
    have HA4 := Lib.hid a4
    have HPC3 := Lib.hid hpc
    clear b3 k3 rp3 rm3 rs3 hd3 a3 a4 hpc
    cases ts
    · clear hu3 gi gz0 gz1 gz2 c108 f108
      go_wp2_with fail
      have q0 := ((HA3.out.set 0 (.int .u32 src)).set 1 (.int .u32 n)).cellv (j := 0) (v := .int .u32 src) rfl
      have q1 := ((HA3.out.set 0 (.int .u32 src)).set 1 (.int .u32 n)).cellv (j := 1) (v := .int .u32 n) rfl
      have hG : StG W3 B p src un mode fmt n false 0 4294967295 4294967295 (.slice none 0 0) := ⟨_, M, ms, g, cap, ds, vt, HR3.out, HPC3.out, HM3.out, HM5.out, HS3.out, HD3.out, (fun e => by cases e), bp, bm, bg⟩
      refine bodyPost_ret (v := .agg #[.int .u32 src, .int .u32 n]) (by simp [results, Tryd.results35, go_sem, q0, q1]) rfl ?_
      exact ⟨rfl, (hG.set51 HA3.out).set51 (HA3.out.set 0 _), (HB3.out.setCell hB _).setCell hB _, (K3.out.set HA3.out (by decide) _).set (HA3.out.set 0 _) (by decide) _⟩
    · obtain ⟨us, hu3⟩ := hu3 rfl
      have HU3 := Lib.hid hu3
      clear hu3
      go_wp2_with (at_builtin; refine wpList_append_own _ rfl _ _ 31 rfl B 23 j0 (.int .u32 0) 1 4 Tryd.underlying31 gi gz0 gz1 gz2 rfl (by decide) _ n us rfl (HU3.out.alloc _) ⟨W3.heap.size, 0, none⟩ 1 1 [.int .u32 0] rfl rfl (cell_one_new _ _ _) (by simp [Value.oneCell']) (by unfold maxLen; omega) (by omega) (by simp; omega) ?_; intro v' w4 hown4 hg4 hnil4; obtain ⟨g', cap', rfl⟩ := own_slice hown4; have HO4 := Lib.hid hown4; have HG4 := Lib.hid hg4; clear hown4 hg4 hnil4; have k108 := (kept_row HU3.out HG4.out HR3.out (by decide)).cellv HPC3.out.c108; have kf108 := (kept_row HU3.out HG4.out HR3.out (by decide)).frozen 108; have l0 := (kept_row HU3.out HG4.out HA4.out (by decide)).cellv (j := 0) (v := .int .u32 src) rfl; have l1 := (kept_row HU3.out HG4.out HA4.out (by decide)).cellv (j := 1) (v := .int .u32 n) rfl; have m0 := (kept_row HU3.out HG4.out HA3.out (by decide)).cellv (j := 0) (v := .int .u32 0) rfl; have m1 := (kept_row HU3.out HG4.out HA3.out (by decide)).cellv (j := 1) (v := .int .u32 0) rfl; have fd4 := (kept_row HU3.out HG4.out HA3.out (by decide)).frozen; have x6 := (kept_row HU3.out HG4.out HA3.out (by decide)).lt; have x7 := (kept_row HU3.out HG4.out HA4.out (by decide)).lt; have xp := (kept_row HU3.out HG4.out HR3.out (by decide)).lt; have hne6 : w.heap.size + 1 ≠ p := HA4.out.ne HR3.out (by decide); have hne7 : w.heap.size ≠ p := HA3.out.ne HR3.out (by decide); clear e0 e1 d0 d1 fd c108 f108)
      have rp4 := kept_row HU3.out HG4.out HR3.out (by decide)
      have a34 := kept_row HU3.out HG4.out HA3.out (by decide)
      have hB4 : Below B w w4 := Below.grown (HB3.out.alloc (Nat.le_trans hB (by omega)) _) HG4.out (by simp; omega) (fun k hk => (own_row HU3.out hk).2)
      have HG : Hid (StG (w4.setCell ⟨p, 108, none⟩ (.slice (some ⟨g', 0, none⟩) (n + 1) cap')) B p src un mode fmt n true 0 4294967295 4294967295 (.slice none 0 0)) := by
        obtain ⟨cur, hr, hb, hx⟩ := own_cell HO4.out
        refine ⟨_, M, ms, g, cap, ds, _, rp4.set 108 _, HPC3.out.use, (kept_row HU3.out HG4.out HM3.out (by decide)).set_other (HM3.out.ne HR3.out (by decide)) _ _, HM5.out, (kept_row HU3.out HG4.out HS3.out (by decide)).set_other (HS3.out.ne HR3.out (by decide)) _ _, HD3.out, fun _ => ⟨g', cap', cur, 0, rfl, hr.set_other (hr.ne rp4 (by decide)) _ _, ?_, hb⟩, bp, bm, bg⟩
        rw [hx _ (by omega), List.getElem?_append_right (by rw [own_len HU3.out]; omega), own_len HU3.out]
        rw [show n - n * 1 = 0 by omega]
        rfl
      have HK4 : Hid (Kp w (w4.setCell ⟨p, 108, none⟩ (.slice (some ⟨g', 0, none⟩) (n + 1) cap'))) := Kp.set (K3.out.trans fun b es t hr ht => kept_row HU3.out HG4.out hr (by rcases ht with rfl | rfl | rfl <;> decide)) rp4 (by decide) _
      have HA34 : Hid (RowAt (w4.setCell ⟨p, 108, none⟩ (.slice (some ⟨g', 0, none⟩) (n + 1) cap')) w.heap.size #[.int .u32 0, .int .u32 0] 51) := a34.set_other hne7 _ _
      have HB4 : Hid (Below B w (w4.setCell ⟨p, 108, none⟩ (.slice (some ⟨g', 0, none⟩) (n + 1) cap'))) := hB4.setCell bp _
      have q0 := ((HA34.out.set 0 (.int .u32 src)).set 1 (.int .u32 n)).cellv (j := 0) (v := .int .u32 src) rfl
      have q1 := ((HA34.out.set 0 (.int .u32 src)).set 1 (.int .u32 n)).cellv (j := 1) (v := .int .u32 n) rfl
      refine bodyPost_ret (v := .agg #[.int .u32 src, .int .u32 n]) (by simp [results, Tryd.results35, go_sem, q0, q1]) rfl ?_
      exact ⟨rfl, (HG.out.set51 HA34.out).set51 (HA34.out.set 0 _), (HB4.out.setCell hB _).setCell hB _, (HK4.out.set HA34.out (by decide) _).set (HA34.out.set 0 _) (by decide) _⟩
  · simp only [List.getElem_toArray, List.getElem_cons_zero, List.getElem_cons_succ]
    go_simp
    refine hK.out _ _ (by go_keep) (fun hHeld => ?_)
    clear hK K
    try simp only [List.getElem_toArray, List.getElem_cons_zero, List.getElem_cons_succ, Act.put, List.setIfInBounds_toArray, List.set_cons_zero, List.set_cons_succ]
    refine wpAnyH_ready (rs := [4]) (by kernel_rfl) (by simp) ?_
    refine AllReadyH.cons rfl (fun K hK => ?_) AllReadyH.nil
    simp only [List.getElem_toArray, List.getElem_cons_zero, List.getElem_cons_succ]
    go_simp
    refine hK.out _ _ (by go_keep) (fun hHeld => ?_)
    clear hK K
    try simp only [List.getElem_toArray, List.getElem_cons_zero, List.getElem_cons_succ, Act.put, List.setIfInBounds_toArray, List.set_cons_zero, List.set_cons_succ]
    refine wpAnyH_ready (rs := [10]) (by kernel_rfl) (by simp) ?_
    refine AllReadyH.cons rfl (fun K hK => ?_) AllReadyH.nil
    refine step_append_lies _ (by rfl) _ _ _ (by rfl) B 59 i0 _ 10 48 Tryd.underlying44 hi hz0 hz1 hz2 rfl (by decide) (.slice (some ⟨S, 0, none⟩) n n) n xs (by rfl) HA.out ⟨W.heap.size, 0, none⟩ 1 1 [.pointer none, .string nmMeta, .int .u32 4294967295, .int .u32 4294967295, .int .u32 0, .int .u32 0, .int .u32 0, .int .u16 0, .int .u8 27, .int .u8 0] (by rfl) (by rfl) HNW.out (by simp [Value.oneCell']) (by decide) (by unfold maxLen; omega) (by omega) (by have := HBW.out; simp; omega) (W.heap.size + 1) (by simp) ?_
    intro g cap w2 hown2 hgrow hat2 hlt2
    have p2' : RowAt w2 p cs 184 := (hgrow.block p (by have := HPR.out.lt; simp; omega) (fun e => HNP.out e.symm)).trans (HPR.out.alloc _)
    have i2' : IR w2 := ⟨(grown_cell hgrow HNI.out (by simp)).trans HIW.out.1, (grown_cell hgrow HNI.out (by simp)).trans HIW.out.2⟩
    have g2 := p2'.frozen 106
    have g3 := p2'.cellv HPC.out.c106
    have HO2 := Lib.hid hown2
    have HGR := Lib.hid hgrow
    clear hown2 hat2 hgrow
    refine hK.out _ _ ⟨i2'.1, i2'.2⟩ (fun hHeld => ?_)
    clear hK K
    try simp only [List.getElem_toArray, List.getElem_cons_zero, List.getElem_cons_succ, Act.put, List.setIfInBounds_toArray, List.set_cons_zero, List.set_cons_succ]
    refine wpAnyH_take (i := 11) (v := ?_) rfl (by kernel_rfl) (by kernel_rfl) (by kernel_rfl) (fun _ _ _ h => h) (Or.inl ⟨by rfl, ?_⟩) (by assumption) ?_
    rotate_left
    · (intro w' hSw; (try dsimp only at hSw); go_simp; with_reducible rfl)
    try simp only [List.getElem_toArray, List.getElem_cons_zero, List.getElem_cons_succ, Act.put, List.setIfInBounds_toArray, List.set_cons_zero, List.set_cons_succ]
    refine wpAnyH_take (i := 12) (v := ?_) rfl (by kernel_rfl) (by kernel_rfl) (by kernel_rfl) (fun _ _ _ h => h) (Or.inl ⟨by rfl, ?_⟩) (by assumption) ?_
    rotate_left
    · (intro w' hSw; (try dsimp only at hSw); go_simp; with_reducible rfl)
    try simp only [List.getElem_toArray, List.getElem_cons_zero, List.getElem_cons_succ, Act.put, List.setIfInBounds_toArray, List.set_cons_zero, List.set_cons_succ]
    refine wpAnyH_ready (rs := [13]) (by kernel_rfl) (by simp) ?_
    refine AllReadyH.cons rfl (fun K hK => ?_) AllReadyH.nil
    simp only [List.getElem_toArray, List.getElem_cons_zero, List.getElem_cons_succ]
    go_simp
    refine hK.out _ _ ⟨(store_far hnp _ _).trans i2'.1, (store_far hnp _ _).trans i2'.2⟩ (fun hHeld => ?_)
    clear hK K
    try simp only [List.getElem_toArray, List.getElem_cons_zero, List.getElem_cons_succ, Act.put, List.setIfInBounds_toArray, List.set_cons_zero, List.set_cons_succ]
    refine wpAnyH_done (by kernel_rfl) ?_ _
    have F : Aft w (w2.setCell ⟨p, 106, none⟩ (.slice (some ⟨g, 0, none⟩) (n + 1) cap)) B p M g n ts cs ms (.slice (some ⟨g, 0, none⟩) (n + 1) cap) vt (.int .u32 src) (.int .u32 n) := sym_after HPR.out HRM.out HOW.out HU.out HA3.out HA4.out HBB.out hB bp ((Below.refl _ _).alloc (Nat.le_refl _) _).drew HGR.out HO2.out
    generalize hW3 : w2.setCell ⟨p, 106, none⟩ (.slice (some ⟨g, 0, none⟩) (n + 1) cap) = W3 at F hHeld ⊢
    clear hW3 hHeld c106 f106 c106d HA HNW HNP HNI HIW HPR HA2 HA3 HA4 HRM HU HOW HBB HO2 HGR p2' i2' g2 g3 g0 g1 HBW
    obtain ⟨rp3, rm3, ⟨ds, rs3, hd3, bg⟩, hu3, a3, a4, b3, k3⟩ := F
    have hpc := HPC.out.sym (v := .slice (some ⟨g, 0, none⟩) (n + 1) cap)
    have c32 := rp3.cellv hpc.c32
    have c108 := rp3.cellv hpc.c108
    have f108 := rp3.frozen 108
    have e0 := a4.cellv (j := 0) (v := .int .u32 src) rfl
    have e1 := a4.cellv (j := 1) (v := .int .u32 n) rfl
    have d0 := a3.cellv (j := 0) (v := .int .u32 0) rfl
    have d1 := a3.cellv (j := 1) (v := .int .u32 0) rfl
    have fd := a3.frozen
    have y6 := a3.lt
    have y7 := a4.lt
    have yp := rp3.lt
    have HB3 := Lib.hid b3
    have K3 := Lib.hid k3
    have HR3 := Lib.hid rp3
    have HM3 := Lib.hid rm3
    have HS3 := Lib.hid rs3
    have HD3 := Lib.hid hd3
    have HA3 := Lib.hid a3
    have HA4 := Lib.hid a4
    have HPC3 := Lib.hid hpc
    clear b3 k3 rp3 rm3 rs3 hd3 a3 a4 hpc
    cases ts
    · clear hu3 gi gz0 gz1 gz2 c108 f108
      go_wp2_with fail
      have q0 := ((HA3.out.set 0 (.int .u32 src)).set 1 (.int .u32 n)).cellv (j := 0) (v := .int .u32 src) rfl
      have q1 := ((HA3.out.set 0 (.int .u32 src)).set 1 (.int .u32 n)).cellv (j := 1) (v := .int .u32 n) rfl
      have hG : StG W3 B p src un mode fmt n false 0 4294967295 4294967295 (.slice none 0 0) := ⟨_, M, ms, g, cap, ds, vt, HR3.out, HPC3.out, HM3.out, HM5.out, HS3.out, HD3.out, (fun e => by cases e), bp, bm, bg⟩
      refine bodyPost_ret (v := .agg #[.int .u32 src, .int .u32 n]) (by simp [results, Tryd.results35, go_sem, q0, q1]) rfl ?_
      exact ⟨rfl, (hG.set51 HA3.out).set51 (HA3.out.set 0 _), (HB3.out.setCell hB _).setCell hB _, (K3.out.set HA3.out (by decide) _).set (HA3.out.set 0 _) (by decide) _⟩
    · obtain ⟨us, hu3⟩ := hu3 rfl
      have HU3 := Lib.hid hu3
      clear hu3
      go_wp2_with (at_builtin; refine wpList_append_own _ rfl _ _ 31 rfl B 23 j0 (.int .u32 0) 1 4 Tryd.underlying31 gi gz0 gz1 gz2 rfl (by decide) _ n us rfl (HU3.out.alloc _) ⟨W3.heap.size, 0, none⟩ 1 1 [.int .u32 0] rfl rfl (cell_one_new _ _ _) (by simp [Value.oneCell']) (by unfold maxLen; omega) (by omega) (by simp; omega) ?_; intro v' w4 hown4 hg4 hnil4; obtain ⟨g', cap', rfl⟩ := own_slice hown4; have HO4 := Lib.hid hown4; have HG4 := Lib.hid hg4; clear hown4 hg4 hnil4; have k108 := (kept_row HU3.out HG4.out HR3.out (by decide)).cellv HPC3.out.c108; have kf108 := (kept_row HU3.out HG4.out HR3.out (by decide)).frozen 108; have l0 := (kept_row HU3.out HG4.out HA4.out (by decide)).cellv (j := 0) (v := .int .u32 src) rfl; have l1 := (kept_row HU3.out HG4.out HA4.out (by decide)).cellv (j := 1) (v := .int .u32 n) rfl; have m0 := (kept_row HU3.out HG4.out HA3.out (by decide)).cellv (j := 0) (v := .int .u32 0) rfl; have m1 := (kept_row HU3.out HG4.out HA3.out (by decide)).cellv (j := 1) (v := .int .u32 0) rfl; have fd4 := (kept_row HU3.out HG4.out HA3.out (by decide)).frozen; have x6 := (kept_row HU3.out HG4.out HA3.out (by decide)).lt; have x7 := (kept_row HU3.out HG4.out HA4.out (by decide)).lt; have xp := (kept_row HU3.out HG4.out HR3.out (by decide)).lt; have hne6 : w.heap.size + 1 ≠ p := HA4.out.ne HR3.out (by decide); have hne7 : w.heap.size ≠ p := HA3.out.ne HR3.out (by decide); clear e0 e1 d0 d1 fd c108 f108)
      have rp4 := kept_row HU3.out HG4.out HR3.out (by decide)
      have a34 := kept_row HU3.out HG4.out HA3.out (by decide)
      have hB4 : Below B w w4 := Below.grown (HB3.out.alloc (Nat.le_trans hB (by omega)) _) HG4.out (by simp; omega) (fun k hk => (own_row HU3.out hk).2)
      have HG : Hid (StG (w4.setCell ⟨p, 108, none⟩ (.slice (some ⟨g', 0, none⟩) (n + 1) cap')) B p src un mode fmt n true 0 4294967295 4294967295 (.slice none 0 0)) := by
        obtain ⟨cur, hr, hb, hx⟩ := own_cell HO4.out
        refine ⟨_, M, ms, g, cap, ds, _, rp4.set 108 _, HPC3.out.use, (kept_row HU3.out HG4.out HM3.out (by decide)).set_other (HM3.out.ne HR3.out (by decide)) _ _, HM5.out, (kept_row HU3.out HG4.out HS3.out (by decide)).set_other (HS3.out.ne HR3.out (by decide)) _ _, HD3.out, fun _ => ⟨g', cap', cur, 0, rfl, hr.set_other (hr.ne rp4 (by decide)) _ _, ?_, hb⟩, bp, bm, bg⟩
        rw [hx _ (by omega), List.getElem?_append_right (by rw [own_len HU3.out]; omega), own_len HU3.out]
        rw [show n - n * 1 = 0 by omega]
        rfl
      have HK4 : Hid (Kp w (w4.setCell ⟨p, 108, none⟩ (.slice (some ⟨g', 0, none⟩) (n + 1) cap'))) := Kp.set (K3.out.trans fun b es t hr ht => kept_row HU3.out HG4.out hr (by rcases ht with rfl | rfl | rfl <;> decide)) rp4 (by decide) _
      have HA34 : Hid (RowAt (w4.setCell ⟨p, 108, none⟩ (.slice (some ⟨g', 0, none⟩) (n + 1) cap')) w.heap.size #[.int .u32 0, .int .u32 0] 51) := a34.set_other hne7 _ _
      have HB4 : Hid (Below B w (w4.setCell ⟨p, 108, none⟩ (.slice (some ⟨g', 0, none⟩) (n + 1) cap'))) := hB4.setCell bp _
      have q0 := ((HA34.out.set 0 (.int .u32 src)).set 1 (.int .u32 n)).cellv (j := 0) (v := .int .u32 src) rfl
      have q1 := ((HA34.out.set 0 (.int .u32 src)).set 1 (.int .u32 n)).cellv (j := 1) (v := .int .u32 n) rfl
      refine bodyPost_ret (v := .agg #[.int .u32 src, .int .u32 n]) (by simp [results, Tryd.results35, go_sem, q0, q1]) rfl ?_
      exact ⟨rfl, (HG.out.set51 HA34.out).set51 (HA34.out.set 0 _), (HB4.out.setCell hB _).setCell hB _, (HK4.out.set HA34.out (by decide) _).set (HA34.out.set 0 _) (by decide) _⟩


end Go.Proofs.YtfmfniddnlpkmaaDoor
