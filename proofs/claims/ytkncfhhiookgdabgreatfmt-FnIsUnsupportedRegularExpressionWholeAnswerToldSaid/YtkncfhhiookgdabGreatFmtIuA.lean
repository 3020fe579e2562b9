import Derived.Test.YtkncfhhiookgdabGreatFmtKit
import Derived.Test.YtkncfhhiookgdabGreatFmtRec
import Derived.Test.YtkncfhhiookgdabGreatFmtScript
import Derived.Test.YtkncfhhiookgdabGreatFmtLocks
import Derived.Defers
import Derived.Laws.AppendOwn
namespace Go.Proofs.YtkncfhhiookgdabGreatFmt
open Go.ChangeShapes Go.WideShapes Go.ChangeAt Go.RowKit
set_option linter.unusedVariables false
set_option maxRecDepth 100000
set_option maxHeartbeats 2000000

open Go.MuLone
/-- A message of the kind Error without a plugin's name: its notes, its location, its text. -/
def msgV (kk id : Int) (nt lc : Value) (tx : ByteArray) : List Value := [nt, .string ⟨#[]⟩, .nilIface, lc, .string tx, .bool false, .int .u8 kk, .int .u8 id]
theorem own_row {w : World} {B n g e s : Nat} {v : Value} {xs : List Value} (h : w.ownsRow B e s v n xs) (hg : v.ownBlock = some g) : (∃ cs, RowAt w g cs e) ∧ B ≤ g := by
  rcases h.2 with ⟨rfl, _⟩ | ⟨g', cap, cur, rfl, hb, hh, _⟩
  · cases hg
  · have : g' = g := by simpa [Value.ownBlock] using hg
    subst this
    exact ⟨⟨cur, hh⟩, hb⟩
theorem own_succ {w : World} {B e s k : Nat} {v : Value} {xs : List Value} (h : w.ownsRow B e s v (k + 1) xs) : ∃ g cap, v = .slice (some ⟨g, 0, none⟩) (k + 1) cap := by
  rcases h.2 with ⟨_, h0⟩ | ⟨g, cap, _, rfl, _⟩
  · omega
  · exact ⟨g, cap, rfl⟩
/-- Rows of other types than a log's own stay. -/
def Kp (w w' : World) : Prop := ∀ b cs t, t ≠ 172 → t ≠ 4 → t ≠ 166 → t ≠ 179 → RowAt w b cs t → RowAt w' b cs t
theorem Kp.refl (w : World) : Kp w w := fun _ _ _ _ _ _ _ h => h
theorem Kp.trans {a b c : World} (h : Kp a b) (g : Kp b c) : Kp a c := fun x cs t h1 h2 h3 h4 r => g x cs t h1 h2 h3 h4 (h x cs t h1 h2 h3 h4 r)
theorem Kp.below {w w' : World} (h : Below w.heap.size w w') : Kp w w' := fun _ _ _ _ _ _ _ r => r.below h r.lt
theorem Kp.alloc (w : World) (o : Obj) : Kp w (w.alloc o) := fun _ _ _ _ _ _ _ r => r.alloc o
theorem Kp.set {w : World} {R : Nat} {cs : Array Value} {s : TypeId} (h : RowAt w R cs s) (hs : s = 172 ∨ s = 4 ∨ s = 166) (o : Nat) (v : Value) : Kp w (w.setCell ⟨R, o, none⟩ v) := fun b ds t h1 h2 h3 h4 r =>
  r.set_other (r.diff h (by intro e; subst e; rcases hs with h | h | h <;> contradiction)) o v
theorem Kp.grown {w w' : World} {v : Value} {B n s : Nat} {xs : List Value} (h : w.grownBy w' v.ownBlock) (ho : w.ownsRow B 179 s v n xs) : Kp w w' := fun a cs t h1 h2 h3 h4 r => by
  refine (h.block a r.lt fun e => ?_).trans r
  obtain ⟨⟨ds, d⟩, _⟩ := own_row ho e.symm
  exact r.diff d h4 rfl
theorem own_kept {w w' : World} {B n e s : Nat} {v : Value} {xs : List Value} (h : w.ownsRow B e s v n xs) (hk : ∀ g cs, RowAt w g cs e → RowAt w' g cs e) : w'.ownsRow B e s v n xs := by
  obtain ⟨h1, h2⟩ := h
  refine ⟨h1, ?_⟩
  rcases h2 with h2 | ⟨g, cap, cur, hv, hb, hh, hr⟩
  · exact .inl h2
  · exact .inr ⟨g, cap, cur, hv, hb, hk g cur hh, hr⟩
/-- A deferred log in memory: its kind's variable, its mutex (free), its flag, its messages' variable, its messages. -/
structure LG (B k mu he ms : Nat) (kd : Int) (v : Value) (n : Nat) (xs : List Value) (fl : Bool) (W : World) : Prop where
  rk : RowAt W k #[.int .u8 kd] 42
  rm : RowAt W mu #[.int .i32 0, .int .u32 0] 172
  rh : RowAt W he #[.bool fl] 4
  rs : RowAt W ms #[v] 166
  own : W.ownsRow B 179 8 v n xs
  hB : B ≤ W.heap.size
  bk : B ≤ k
  bm : B ≤ mu
  bh : B ≤ he
  bs : B ≤ ms
theorem LG.later {B k mu he ms : Nat} {kd : Int} {v : Value} {n : Nat} {xs : List Value} {fl : Bool} {W W' : World} (H : LG B k mu he ms kd v n xs fl W) (hb : Below W.heap.size W W') : LG B k mu he ms kd v n xs fl W' :=
  { H with rk := H.rk.below hb H.rk.lt, rm := H.rm.below hb H.rm.lt, rh := H.rh.below hb H.rh.lt, rs := H.rs.below hb H.rs.lt, own := own_kept H.own fun g cs r => r.below hb r.lt, hB := Nat.le_trans H.hB hb.size }

/-- What a message added leaves: the log with one message more. -/
def Added (B k mu he ms : Nat) (kd : Int) (n : Nat) (ys : List Value) (fl : Bool) (W : World) (e : Ending) (W' : World) : Prop := e = .returned (.tuple #[]) ∧ ∃ v, LG B k mu he ms kd v (n + 1) ys fl W' ∧ Kp W W' ∧ Below B W W'
theorem info34 : (Tryz.prog.info? 179).map (fun i => (i.zero, i.size, i.bytes)) = some (some (.agg #[.slice none 0 0, .string ⟨#[]⟩, .nilIface, .pointer none, .string ⟨#[]⟩, .bool false, .int .u8 0, .int .u8 0]), 8, 96) := by kernel_rfl
set_option maxHeartbeats 8000000 in
theorem add18e (B k mu he ms : Nat) (kd : Int) (v : Value) (n : Nat) (xs : List Value) (fl : Bool) (W : World) (H : LG B k mu he ms kd v n xs fl W) (hkd : ((kd : Int) == 1) = false) (na : Option Addr) (nl nc : Nat) (la : Option Addr) (tx : ByteArray) (hn : n ≤ 100000) :
    Calls Tryz.prog 18 #[.agg #[.slice na nl nc, .string ⟨#[]⟩, .nilIface, .pointer la, .string tx, .bool false, .int .u8 0, .int .u8 0], .pointer (some ⟨k, 0, none⟩), .pointer (some ⟨mu, 0, none⟩), .pointer (some ⟨he, 0, none⟩), .pointer (some ⟨ms, 0, none⟩)] W
      (Added B k mu he ms kd n (xs ++ msgV 0 0 (.slice na nl nc) (.pointer la) tx) true W) := by
  have ck := H.rk.cellv (j := 0) (v := .int .u8 kd) rfl
  have hk := H.rk.lt
  have cm := H.rm.cellv (j := 0) (v := .int .i32 0) rfl
  have hmu := H.rm.lt
  have HH := Lib.hid H
  clear H
  have hh0 := HH.out.rh
  go_enter_defers Tryz.func18, Tryz.ntmps18
  go_wp2_with fail
  refine (lock_free Tryz.muLib ⟨mu, 0, none⟩ _ ((HH.out.rm.alloc _).cellv rfl) ((HH.out.rm.alloc _).frozen 0)).mono ?_
  rintro e2 w2 ⟨rfl, rfl⟩
  have rm1 : RowAt (W.alloc (.cells #[.slice na nl nc, .string ⟨#[]⟩, .nilIface, .pointer la, .string tx, .bool false, .int .u8 0, .int .u8 0] 179)) mu #[.int .i32 0, .int .u32 0] 172 := HH.out.rm.alloc _
  have rb2 : RowAt ((W.alloc (.cells #[.slice na nl nc, .string ⟨#[]⟩, .nilIface, .pointer la, .string tx, .bool false, .int .u8 0, .int .u8 0] 179)).setCell ⟨mu, 0, none⟩ (.int .i32 1)) W.heap.size #[.slice na nl nc, .string ⟨#[]⟩, .nilIface, .pointer la, .string tx, .bool false, .int .u8 0, .int .u8 0] 179 := (RowAt.new W #[.slice na nl nc, .string ⟨#[]⟩, .nilIface, .pointer la, .string tx, .bool false, .int .u8 0, .int .u8 0] 179).set_other ((RowAt.new W #[.slice na nl nc, .string ⟨#[]⟩, .nilIface, .pointer la, .string tx, .bool false, .int .u8 0, .int .u8 0] 179).diff rm1 (by decide)) _ _
  have rm2 : RowAt ((W.alloc (.cells #[.slice na nl nc, .string ⟨#[]⟩, .nilIface, .pointer la, .string tx, .bool false, .int .u8 0, .int .u8 0] 179)).setCell ⟨mu, 0, none⟩ (.int .i32 1)) mu #[.int .i32 1, .int .u32 0] 172 := rm1.set 0 (.int .i32 1)
  have k2 : Kp W ((W.alloc (.cells #[.slice na nl nc, .string ⟨#[]⟩, .nilIface, .pointer la, .string tx, .bool false, .int .u8 0, .int .u8 0] 179)).setCell ⟨mu, 0, none⟩ (.int .i32 1)) := (Kp.alloc W _).trans (Kp.set rm1 (.inl rfl) 0 _)
  have rk2 := (HH.out.rk.alloc (.cells #[.slice na nl nc, .string ⟨#[]⟩, .nilIface, .pointer la, .string tx, .bool false, .int .u8 0, .int .u8 0] 179)).set_other ((HH.out.rk.alloc (.cells #[.slice na nl nc, .string ⟨#[]⟩, .nilIface, .pointer la, .string tx, .bool false, .int .u8 0, .int .u8 0] 179)).diff rm1 (by decide)) 0 (.int .i32 1)
  have rh2 := (hh0.alloc (.cells #[.slice na nl nc, .string ⟨#[]⟩, .nilIface, .pointer la, .string tx, .bool false, .int .u8 0, .int .u8 0] 179)).set_other ((hh0.alloc (.cells #[.slice na nl nc, .string ⟨#[]⟩, .nilIface, .pointer la, .string tx, .bool false, .int .u8 0, .int .u8 0] 179)).diff rm1 (by decide)) 0 (.int .i32 1)
  have rs2 := (HH.out.rs.alloc (.cells #[.slice na nl nc, .string ⟨#[]⟩, .nilIface, .pointer la, .string tx, .bool false, .int .u8 0, .int .u8 0] 179)).set_other ((HH.out.rs.alloc (.cells #[.slice na nl nc, .string ⟨#[]⟩, .nilIface, .pointer la, .string tx, .bool false, .int .u8 0, .int .u8 0] 179)).diff rm1 (by decide)) 0 (.int .i32 1)
  have ow2 : World.ownsRow ((W.alloc (.cells #[.slice na nl nc, .string ⟨#[]⟩, .nilIface, .pointer la, .string tx, .bool false, .int .u8 0, .int .u8 0] 179)).setCell ⟨mu, 0, none⟩ (.int .i32 1)) B 179 8 v n xs := own_kept HH.out.own fun g cs r => (r.alloc _).set_other ((r.alloc (.cells #[.slice na nl nc, .string ⟨#[]⟩, .nilIface, .pointer la, .string tx, .bool false, .int .u8 0, .int .u8 0] 179)).diff rm1 (by decide)) 0 (.int .i32 1)
  have bl2 : Below B W ((W.alloc (.cells #[.slice na nl nc, .string ⟨#[]⟩, .nilIface, .pointer la, .string tx, .bool false, .int .u8 0, .int .u8 0] 179)).setCell ⟨mu, 0, none⟩ (.int .i32 1)) := ((Below.refl _ _).alloc HH.out.hB _).setCell HH.out.bm _
  have zz2 : W.heap.size < ((W.alloc (.cells #[.slice na nl nc, .string ⟨#[]⟩, .nilIface, .pointer la, .string tx, .bool false, .int .u8 0, .int .u8 0] 179)).setCell ⟨mu, 0, none⟩ (.int .i32 1)).heap.size := by simp
  obtain ⟨W2, hW2⟩ : ∃ W2, W2 = (W.alloc (.cells #[.slice na nl nc, .string ⟨#[]⟩, .nilIface, .pointer la, .string tx, .bool false, .int .u8 0, .int .u8 0] 179)).setCell ⟨mu, 0, none⟩ (.int .i32 1) := ⟨_, rfl⟩
  obtain ⟨b5, hb5⟩ : ∃ b5, b5 = W.heap.size := ⟨_, rfl⟩
  rw [← hW2] at rb2 rm2 k2 rk2 rh2 rs2 ow2 bl2 zz2 ⊢
  rw [← hb5] at rb2 zz2 ⊢
  clear hW2 ck hk cm hmu hh0 rm1 hb5
  have c6 := rb2.cellv (j := 6) (v := .int .u8 0) rfl
  have ch := rh2.cellv (j := 0) (v := .bool fl) rfl
  have fh := rh2.frozen 0
  have HO := Lib.hid (And.intro rb2 (And.intro rm2 (And.intro k2 (And.intro rk2 (And.intro rh2 (And.intro rs2 (And.intro ow2 bl2)))))))
  clear rb2 rm2 k2 rk2 rh2 rs2 ow2 bl2
  go_upto_region 6 with (fail)
  obtain ⟨rb2, rm2, k2, rk2, rh2, rs2, ow2, bl2⟩ := HO.out
  have rb3 := rb2.set_other (rb2.diff rh2 (by decide)) 0 (.bool true)
  have rm3 := rm2.set_other (rm2.diff rh2 (by decide)) 0 (.bool true)
  have rk3 := rk2.set_other (rk2.diff rh2 (by decide)) 0 (.bool true)
  have rh3 := rh2.set 0 (.bool true)
  have rs3 := rs2.set_other (rs2.diff rh2 (by decide)) 0 (.bool true)
  have k3 := k2.trans (Kp.set rh2 (.inr (.inl rfl)) 0 (.bool true))
  have ow3 : World.ownsRow (W2.setCell ⟨he, 0, none⟩ (.bool true)) B 179 8 v n xs := own_kept ow2 fun g cs r => r.set_other (r.diff rh2 (by decide)) 0 (.bool true)
  have bl3 : Below B W (W2.setCell ⟨he, 0, none⟩ (.bool true)) := bl2.setCell HH.out.bh _
  have zz3 : b5 < (W2.setCell ⟨he, 0, none⟩ (.bool true)).heap.size := by simpa using zz2
  obtain ⟨W3, hW3⟩ : ∃ W3, W3 = W2.setCell ⟨he, 0, none⟩ (.bool true) := ⟨_, rfl⟩
  rw [← hW3] at rb3 rm3 rk3 rh3 rs3 k3 ow3 bl3 zz3 ⊢
  clear hW3 rb2 rm2 k2 rk2 rh2 rs2 ow2 bl2 HO c6 ch fh zz2
  have d0 := rb3.cellv (j := 0) (v := .slice na nl nc) rfl
  have d1 := rb3.cellv (j := 1) (v := .string ⟨#[]⟩) rfl
  have d2 := rb3.cellv (j := 2) (v := .nilIface) rfl
  have d3 := rb3.cellv (j := 3) (v := .pointer la) rfl
  have d4 := rb3.cellv (j := 4) (v := .string tx) rfl
  have d5 := rb3.cellv (j := 5) (v := .bool false) rfl
  have d6 := rb3.cellv (j := 6) (v := .int .u8 0) rfl
  have d7 := rb3.cellv (j := 7) (v := .int .u8 0) rfl
  have c4 := rs3.cellv (j := 0) (v := v) rfl
  have HO := Lib.hid (And.intro rm3 (And.intro k3 (And.intro rk3 (And.intro rh3 (And.intro rs3 (And.intro ow3 bl3))))))
  have hbz : B ≤ W3.heap.size := Nat.le_trans HH.out.hB bl3.size
  clear rb3 rm3 k3 rk3 rh3 rs3 ow3 bl3
  obtain ⟨i0, hi, hz0, hz1, hz2⟩ := info_parts info34
  go_wp2_with (at_builtin; refine wpList_append_own _ rfl _ _ 166 rfl B 179 i0 _ 8 96 Tryz.underlying166 hi hz0 hz1 hz2 rfl (by decide) v n xs (by rfl) (HO.out.2.2.2.2.2.1.alloc _) ⟨W3.heap.size, 0, none⟩ 1 1 [.slice na nl nc, .string ⟨#[]⟩, .nilIface, .pointer la, .string tx, .bool false, .int .u8 0, .int .u8 0] rfl rfl ?_ ?_ ?_ ?_ ?_ ?_)
  · intro j u hu
    rw [show (⟨W3.heap.size, 0, none⟩ : Addr).add j = ⟨W3.heap.size, j, none⟩ from by rw [addr_add, Nat.zero_add]]
    exact (RowAt.new W3 #[.slice na nl nc, .string ⟨#[]⟩, .nilIface, .pointer la, .string tx, .bool false, .int .u8 0, .int .u8 0] 179).cellv (by simpa using hu)
  · intro u hu
    simp at hu
    rcases hu with rfl | rfl | rfl | rfl | rfl | rfl | rfl | rfl <;> rfl
  · unfold maxLen; omega
  · omega
  · simp; omega
  intro v' w5 own5 hg5 _
  obtain ⟨g5, cap5, rfl⟩ := own_succ own5
  obtain ⟨rm3, k3, rk3, rh3, rs3, ow3, bl3⟩ := HO.out
  have hzw : W3.heap.size ≤ w5.heap.size := by have := hg5.size; simp at this; omega
  have K5 := Kp.grown hg5 (ow3.alloc (.cells #[.slice na nl nc, .string ⟨#[]⟩, .nilIface, .pointer la, .string tx, .bool false, .int .u8 0, .int .u8 0] 179))
  have kk : ∀ {g : Nat} {cs : Array Value} {t : TypeId}, t ≠ 179 → RowAt W3 g cs t → RowAt w5 g cs t := fun {g cs t} ht r => by
    have r' := r.alloc (.cells #[.slice na nl nc, .string ⟨#[]⟩, .nilIface, .pointer la, .string tx, .bool false, .int .u8 0, .int .u8 0] 179)
    refine (hg5.block g r'.lt fun e => ?_).trans r'
    obtain ⟨⟨ds, d⟩, _⟩ := own_row (ow3.alloc (.cells #[.slice na nl nc, .string ⟨#[]⟩, .nilIface, .pointer la, .string tx, .bool false, .int .u8 0, .int .u8 0] 179)) e.symm
    exact r'.diff d ht rfl
  have rm5 := kk (by decide) rm3
  have rk5 := kk (by decide) rk3
  have rh5 := kk (by decide) rh3
  have rs5 := kk (by decide) rs3
  have k5 : Kp W w5 := (k3.trans (Kp.alloc W3 _)).trans K5
  have bl5 : Below B W w5 := Below.grown (bl3.alloc hbz _) hg5 (by simp; omega) (fun j hj => (own_row (ow3.alloc (.cells #[.slice na nl nc, .string ⟨#[]⟩, .nilIface, .pointer la, .string tx, .bool false, .int .u8 0, .int .u8 0] 179)) hj).2)
  have c9 := rs5.cellv (j := 0) (v := v) rfl
  have f9 := rs5.frozen 0
  have HO5 := Lib.hid (And.intro rm5 (And.intro k5 (And.intro rk5 (And.intro rh5 (And.intro rs5 (And.intro own5 bl5))))))
  clear rm5 rk5 rh5 rs5 k5 own5 bl5 kk K5 rm3 k3 rk3 rh3 rs3 ow3 bl3 HO hg5 hi hz0 hz1 hz2 d0 d1 d2 d3 d4 d5 d6 d7 c4
  go_wp2_with fail
  refine leaves_cons (f := 20) (args := #[.pointer (some ⟨mu, 0, none⟩)]) (by simp) (by simp [go_sem]) ?_
  obtain ⟨rm5, k5, rk5, rh5, rs5, own5, bl5⟩ := HO5.out
  have rm6 := rm5.set_other (rm5.diff rs5 (by decide)) 0 (.slice (some ⟨g5, 0, none⟩) (n + 1) cap5)
  refine (unlock_deferred Tryz.muLib ⟨mu, 0, none⟩ .returning _ (rm6.cellv rfl) (rm6.frozen 0)).mono ?_
  rintro e u' w'' ⟨rfl, rfl, rfl⟩
  have rk6 := rk5.set_other (rk5.diff rs5 (by decide)) 0 (.slice (some ⟨g5, 0, none⟩) (n + 1) cap5)
  have rh6 := rh5.set_other (rh5.diff rs5 (by decide)) 0 (.slice (some ⟨g5, 0, none⟩) (n + 1) cap5)
  have rs6 := rs5.set 0 (.slice (some ⟨g5, 0, none⟩) (n + 1) cap5)
  have ow6 : World.ownsRow (w5.setCell ⟨ms, 0, none⟩ (.slice (some ⟨g5, 0, none⟩) (n + 1) cap5)) B 179 8 (.slice (some ⟨g5, 0, none⟩) (n + 1) cap5) (n + 1) (xs ++ msgV 0 0 (.slice na nl nc) (.pointer la) tx) := own_kept own5 fun g cs r => r.set_other (r.diff rs5 (by decide)) 0 _
  have bl6 : Below B W (w5.setCell ⟨ms, 0, none⟩ (.slice (some ⟨g5, 0, none⟩) (n + 1) cap5)) := bl5.setCell HH.out.bs _
  have k6 := k5.trans (Kp.set rs5 (.inr (.inr rfl)) 0 (.slice (some ⟨g5, 0, none⟩) (n + 1) cap5))
  refine ⟨_, results_none rfl _ _ _, rfl, .slice (some ⟨g5, 0, none⟩) (n + 1) cap5, ⟨rk6.set_other (rk6.diff rm6 (by decide)) 0 _, rm6.set 0 (.int .i32 0), rh6.set_other (rh6.diff rm6 (by decide)) 0 _, rs6.set_other (rs6.diff rm6 (by decide)) 0 _, own_kept ow6 fun g cs r => r.set_other (r.diff rm6 (by decide)) 0 _, ?_, HH.out.bk, HH.out.bm, HH.out.bh, HH.out.bs⟩, k6.trans (Kp.set rm6 (.inl rfl) 0 _), bl6.setCell HH.out.bm _⟩
  simp
  omega

set_option maxHeartbeats 8000000 in
theorem add18d (B k mu he ms : Nat) (kd : Int) (v : Value) (n : Nat) (xs : List Value) (fl : Bool) (W : World) (H : LG B k mu he ms kd v n xs fl W) (hkd : ((kd : Int) == 1) = false) (na : Option Addr) (nl nc : Nat) (la : Option Addr) (tx : ByteArray) (hn : n ≤ 100000) :
    Calls Tryz.prog 18 #[.agg #[.slice na nl nc, .string ⟨#[]⟩, .nilIface, .pointer la, .string tx, .bool false, .int .u8 4, .int .u8 32], .pointer (some ⟨k, 0, none⟩), .pointer (some ⟨mu, 0, none⟩), .pointer (some ⟨he, 0, none⟩), .pointer (some ⟨ms, 0, none⟩)] W
      (Added B k mu he ms kd n (xs ++ msgV 4 32 (.slice na nl nc) (.pointer la) tx) fl W) := by
  have ck := H.rk.cellv (j := 0) (v := .int .u8 kd) rfl
  have hk := H.rk.lt
  have cm := H.rm.cellv (j := 0) (v := .int .i32 0) rfl
  have hmu := H.rm.lt
  have HH := Lib.hid H
  clear H
  have hh0 := HH.out.rh
  go_enter_defers Tryz.func18, Tryz.ntmps18
  go_wp2_with fail
  refine (lock_free Tryz.muLib ⟨mu, 0, none⟩ _ ((HH.out.rm.alloc _).cellv rfl) ((HH.out.rm.alloc _).frozen 0)).mono ?_
  rintro e2 w2 ⟨rfl, rfl⟩
  have rm1 : RowAt (W.alloc (.cells #[.slice na nl nc, .string ⟨#[]⟩, .nilIface, .pointer la, .string tx, .bool false, .int .u8 4, .int .u8 32] 179)) mu #[.int .i32 0, .int .u32 0] 172 := HH.out.rm.alloc _
  have rb2 : RowAt ((W.alloc (.cells #[.slice na nl nc, .string ⟨#[]⟩, .nilIface, .pointer la, .string tx, .bool false, .int .u8 4, .int .u8 32] 179)).setCell ⟨mu, 0, none⟩ (.int .i32 1)) W.heap.size #[.slice na nl nc, .string ⟨#[]⟩, .nilIface, .pointer la, .string tx, .bool false, .int .u8 4, .int .u8 32] 179 := (RowAt.new W #[.slice na nl nc, .string ⟨#[]⟩, .nilIface, .pointer la, .string tx, .bool false, .int .u8 4, .int .u8 32] 179).set_other ((RowAt.new W #[.slice na nl nc, .string ⟨#[]⟩, .nilIface, .pointer la, .string tx, .bool false, .int .u8 4, .int .u8 32] 179).diff rm1 (by decide)) _ _
  have rm2 : RowAt ((W.alloc (.cells #[.slice na nl nc, .string ⟨#[]⟩, .nilIface, .pointer la, .string tx, .bool false, .int .u8 4, .int .u8 32] 179)).setCell ⟨mu, 0, none⟩ (.int .i32 1)) mu #[.int .i32 1, .int .u32 0] 172 := rm1.set 0 (.int .i32 1)
  have k2 : Kp W ((W.alloc (.cells #[.slice na nl nc, .string ⟨#[]⟩, .nilIface, .pointer la, .string tx, .bool false, .int .u8 4, .int .u8 32] 179)).setCell ⟨mu, 0, none⟩ (.int .i32 1)) := (Kp.alloc W _).trans (Kp.set rm1 (.inl rfl) 0 _)
  have rk2 := (HH.out.rk.alloc (.cells #[.slice na nl nc, .string ⟨#[]⟩, .nilIface, .pointer la, .string tx, .bool false, .int .u8 4, .int .u8 32] 179)).set_other ((HH.out.rk.alloc (.cells #[.slice na nl nc, .string ⟨#[]⟩, .nilIface, .pointer la, .string tx, .bool false, .int .u8 4, .int .u8 32] 179)).diff rm1 (by decide)) 0 (.int .i32 1)
  have rh2 := (hh0.alloc (.cells #[.slice na nl nc, .string ⟨#[]⟩, .nilIface, .pointer la, .string tx, .bool false, .int .u8 4, .int .u8 32] 179)).set_other ((hh0.alloc (.cells #[.slice na nl nc, .string ⟨#[]⟩, .nilIface, .pointer la, .string tx, .bool false, .int .u8 4, .int .u8 32] 179)).diff rm1 (by decide)) 0 (.int .i32 1)
  have rs2 := (HH.out.rs.alloc (.cells #[.slice na nl nc, .string ⟨#[]⟩, .nilIface, .pointer la, .string tx, .bool false, .int .u8 4, .int .u8 32] 179)).set_other ((HH.out.rs.alloc (.cells #[.slice na nl nc, .string ⟨#[]⟩, .nilIface, .pointer la, .string tx, .bool false, .int .u8 4, .int .u8 32] 179)).diff rm1 (by decide)) 0 (.int .i32 1)
  have ow2 : World.ownsRow ((W.alloc (.cells #[.slice na nl nc, .string ⟨#[]⟩, .nilIface, .pointer la, .string tx, .bool false, .int .u8 4, .int .u8 32] 179)).setCell ⟨mu, 0, none⟩ (.int .i32 1)) B 179 8 v n xs := own_kept HH.out.own fun g cs r => (r.alloc _).set_other ((r.alloc (.cells #[.slice na nl nc, .string ⟨#[]⟩, .nilIface, .pointer la, .string tx, .bool false, .int .u8 4, .int .u8 32] 179)).diff rm1 (by decide)) 0 (.int .i32 1)
  have bl2 : Below B W ((W.alloc (.cells #[.slice na nl nc, .string ⟨#[]⟩, .nilIface, .pointer la, .string tx, .bool false, .int .u8 4, .int .u8 32] 179)).setCell ⟨mu, 0, none⟩ (.int .i32 1)) := ((Below.refl _ _).alloc HH.out.hB _).setCell HH.out.bm _
  have zz2 : W.heap.size < ((W.alloc (.cells #[.slice na nl nc, .string ⟨#[]⟩, .nilIface, .pointer la, .string tx, .bool false, .int .u8 4, .int .u8 32] 179)).setCell ⟨mu, 0, none⟩ (.int .i32 1)).heap.size := by simp
  obtain ⟨W2, hW2⟩ : ∃ W2, W2 = (W.alloc (.cells #[.slice na nl nc, .string ⟨#[]⟩, .nilIface, .pointer la, .string tx, .bool false, .int .u8 4, .int .u8 32] 179)).setCell ⟨mu, 0, none⟩ (.int .i32 1) := ⟨_, rfl⟩
  obtain ⟨b5, hb5⟩ : ∃ b5, b5 = W.heap.size := ⟨_, rfl⟩
  rw [← hW2] at rb2 rm2 k2 rk2 rh2 rs2 ow2 bl2 zz2 ⊢
  rw [← hb5] at rb2 zz2 ⊢
  clear hW2 ck hk cm hmu hh0 rm1 hb5
  have c6 := rb2.cellv (j := 6) (v := .int .u8 4) rfl
  have ch := rh2.cellv (j := 0) (v := .bool fl) rfl
  have fh := rh2.frozen 0
  have HO := Lib.hid (And.intro rb2 (And.intro rm2 (And.intro k2 (And.intro rk2 (And.intro rh2 (And.intro rs2 (And.intro ow2 bl2)))))))
  clear rb2 rm2 k2 rk2 rh2 rs2 ow2 bl2
  go_upto_region 6 with (fail)
  obtain ⟨rb2, rm2, k2, rk2, rh2, rs2, ow2, bl2⟩ := HO.out
  obtain ⟨W3, hW3⟩ : ∃ W3, W3 = W2 := ⟨_, rfl⟩
  have rb3 := rb2
  have rm3 := rm2
  have rk3 := rk2
  have rh3 := rh2
  have rs3 := rs2
  have k3 := k2
  have ow3 := ow2
  have bl3 := bl2
  have zz3 := zz2
  rw [← hW3] at rb3 rm3 rk3 rh3 rs3 k3 ow3 bl3 zz3 ⊢
  clear hW3 rb2 rm2 k2 rk2 rh2 rs2 ow2 bl2 HO c6 ch fh zz2
  have d0 := rb3.cellv (j := 0) (v := .slice na nl nc) rfl
  have d1 := rb3.cellv (j := 1) (v := .string ⟨#[]⟩) rfl
  have d2 := rb3.cellv (j := 2) (v := .nilIface) rfl
  have d3 := rb3.cellv (j := 3) (v := .pointer la) rfl
  have d4 := rb3.cellv (j := 4) (v := .string tx) rfl
  have d5 := rb3.cellv (j := 5) (v := .bool false) rfl
  have d6 := rb3.cellv (j := 6) (v := .int .u8 4) rfl
  have d7 := rb3.cellv (j := 7) (v := .int .u8 32) rfl
  have c4 := rs3.cellv (j := 0) (v := v) rfl
  have HO := Lib.hid (And.intro rm3 (And.intro k3 (And.intro rk3 (And.intro rh3 (And.intro rs3 (And.intro ow3 bl3))))))
  have hbz : B ≤ W3.heap.size := Nat.le_trans HH.out.hB bl3.size
  clear rb3 rm3 k3 rk3 rh3 rs3 ow3 bl3
  obtain ⟨i0, hi, hz0, hz1, hz2⟩ := info_parts info34
  go_wp2_with (at_builtin; refine wpList_append_own _ rfl _ _ 166 rfl B 179 i0 _ 8 96 Tryz.underlying166 hi hz0 hz1 hz2 rfl (by decide) v n xs (by rfl) (HO.out.2.2.2.2.2.1.alloc _) ⟨W3.heap.size, 0, none⟩ 1 1 [.slice na nl nc, .string ⟨#[]⟩, .nilIface, .pointer la, .string tx, .bool false, .int .u8 4, .int .u8 32] rfl rfl ?_ ?_ ?_ ?_ ?_ ?_)
  · intro j u hu
    rw [show (⟨W3.heap.size, 0, none⟩ : Addr).add j = ⟨W3.heap.size, j, none⟩ from by rw [addr_add, Nat.zero_add]]
    exact (RowAt.new W3 #[.slice na nl nc, .string ⟨#[]⟩, .nilIface, .pointer la, .string tx, .bool false, .int .u8 4, .int .u8 32] 179).cellv (by simpa using hu)
  · intro u hu
    simp at hu
    rcases hu with rfl | rfl | rfl | rfl | rfl | rfl | rfl | rfl <;> rfl
  · unfold maxLen; omega
  · omega
  · simp; omega
  intro v' w5 own5 hg5 _
  obtain ⟨g5, cap5, rfl⟩ := own_succ own5
  obtain ⟨rm3, k3, rk3, rh3, rs3, ow3, bl3⟩ := HO.out
  have hzw : W3.heap.size ≤ w5.heap.size := by have := hg5.size; simp at this; omega
  have K5 := Kp.grown hg5 (ow3.alloc (.cells #[.slice na nl nc, .string ⟨#[]⟩, .nilIface, .pointer la, .string tx, .bool false, .int .u8 4, .int .u8 32] 179))
  have kk : ∀ {g : Nat} {cs : Array Value} {t : TypeId}, t ≠ 179 → RowAt W3 g cs t → RowAt w5 g cs t := fun {g cs t} ht r => by
    have r' := r.alloc (.cells #[.slice na nl nc, .string ⟨#[]⟩, .nilIface, .pointer la, .string tx, .bool false, .int .u8 4, .int .u8 32] 179)
    refine (hg5.block g r'.lt fun e => ?_).trans r'
    obtain ⟨⟨ds, d⟩, _⟩ := own_row (ow3.alloc (.cells #[.slice na nl nc, .string ⟨#[]⟩, .nilIface, .pointer la, .string tx, .bool false, .int .u8 4, .int .u8 32] 179)) e.symm
    exact r'.diff d ht rfl
  have rm5 := kk (by decide) rm3
  have rk5 := kk (by decide) rk3
  have rh5 := kk (by decide) rh3
  have rs5 := kk (by decide) rs3
  have k5 : Kp W w5 := (k3.trans (Kp.alloc W3 _)).trans K5
  have bl5 : Below B W w5 := Below.grown (bl3.alloc hbz _) hg5 (by simp; omega) (fun j hj => (own_row (ow3.alloc (.cells #[.slice na nl nc, .string ⟨#[]⟩, .nilIface, .pointer la, .string tx, .bool false, .int .u8 4, .int .u8 32] 179)) hj).2)
  have c9 := rs5.cellv (j := 0) (v := v) rfl
  have f9 := rs5.frozen 0
  have HO5 := Lib.hid (And.intro rm5 (And.intro k5 (And.intro rk5 (And.intro rh5 (And.intro rs5 (And.intro own5 bl5))))))
  clear rm5 rk5 rh5 rs5 k5 own5 bl5 kk K5 rm3 k3 rk3 rh3 rs3 ow3 bl3 HO hg5 hi hz0 hz1 hz2 d0 d1 d2 d3 d4 d5 d6 d7 c4
  go_wp2_with fail
  refine leaves_cons (f := 20) (args := #[.pointer (some ⟨mu, 0, none⟩)]) (by simp) (by simp [go_sem]) ?_
  obtain ⟨rm5, k5, rk5, rh5, rs5, own5, bl5⟩ := HO5.out
  have rm6 := rm5.set_other (rm5.diff rs5 (by decide)) 0 (.slice (some ⟨g5, 0, none⟩) (n + 1) cap5)
  refine (unlock_deferred Tryz.muLib ⟨mu, 0, none⟩ .returning _ (rm6.cellv rfl) (rm6.frozen 0)).mono ?_
  rintro e u' w'' ⟨rfl, rfl, rfl⟩
  have rk6 := rk5.set_other (rk5.diff rs5 (by decide)) 0 (.slice (some ⟨g5, 0, none⟩) (n + 1) cap5)
  have rh6 := rh5.set_other (rh5.diff rs5 (by decide)) 0 (.slice (some ⟨g5, 0, none⟩) (n + 1) cap5)
  have rs6 := rs5.set 0 (.slice (some ⟨g5, 0, none⟩) (n + 1) cap5)
  have ow6 : World.ownsRow (w5.setCell ⟨ms, 0, none⟩ (.slice (some ⟨g5, 0, none⟩) (n + 1) cap5)) B 179 8 (.slice (some ⟨g5, 0, none⟩) (n + 1) cap5) (n + 1) (xs ++ msgV 4 32 (.slice na nl nc) (.pointer la) tx) := own_kept own5 fun g cs r => r.set_other (r.diff rs5 (by decide)) 0 _
  have bl6 : Below B W (w5.setCell ⟨ms, 0, none⟩ (.slice (some ⟨g5, 0, none⟩) (n + 1) cap5)) := bl5.setCell HH.out.bs _
  have k6 := k5.trans (Kp.set rs5 (.inr (.inr rfl)) 0 (.slice (some ⟨g5, 0, none⟩) (n + 1) cap5))
  refine ⟨_, results_none rfl _ _ _, rfl, .slice (some ⟨g5, 0, none⟩) (n + 1) cap5, ⟨rk6.set_other (rk6.diff rm6 (by decide)) 0 _, rm6.set 0 (.int .i32 0), rh6.set_other (rh6.diff rm6 (by decide)) 0 _, rs6.set_other (rs6.diff rm6 (by decide)) 0 _, own_kept ow6 fun g cs r => r.set_other (r.diff rm6 (by decide)) 0 _, ?_, HH.out.bk, HH.out.bm, HH.out.bh, HH.out.bs⟩, k6.trans (Kp.set rm6 (.inl rfl) 0 _), bl6.setCell HH.out.bm _⟩
  simp
  omega

end Go.Proofs.YtkncfhhiookgdabGreatFmt
