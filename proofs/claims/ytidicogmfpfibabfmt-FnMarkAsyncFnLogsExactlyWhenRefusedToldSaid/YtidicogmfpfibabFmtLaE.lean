import Derived.Test.YtidicogmfpfibabFmtKit
import Derived.Test.YtidicogmfpfibabFmtLaD
namespace Go.Proofs.YtidicogmfpfibabFmt
open Go.ChangeShapes Go.WideShapes Go.ChangeAt Go.RowKit
set_option linter.unusedVariables false
set_option maxRecDepth 100000
set_option maxHeartbeats 2000000

open Go.MuLone
/-- n messages without locations, cell by cell. -/
def MsgList (n : Nat) (Nt : Nat → Option Addr × Nat × Nat) (T : Nat → ByteArray) (xs : List Value) : Prop := ∀ i, i < n → (xs.drop (i * 8)).take 8 = msgV (.slice (Nt i).1 (Nt i).2.1 (Nt i).2.2) (.pointer none) (T i)
theorem msgV_len (nt lc : Value) (tx : ByteArray) : (msgV nt lc tx).length = 8 := rfl
theorem MsgList.snoc {n : Nat} {Nt : Nat → Option Addr × Nat × Nat} {T : Nat → ByteArray} {xs : List Value} (h : MsgList n Nt T xs) (hl : xs.length = n * 8) (hl2 : ∀ i, i < n → i * 8 + 8 ≤ n * 8) (nt : Option Addr × Nat × Nat) (tx : ByteArray) :
    MsgList (n + 1) (fun i => if i = n then nt else Nt i) (fun i => if i = n then tx else T i) (xs ++ msgV (.slice nt.1 nt.2.1 nt.2.2) (.pointer none) tx) := by
  intro i hi
  by_cases e : i = n
  · subst e
    simp only [if_pos]
    rw [List.drop_append, ← hl, List.drop_length, Nat.sub_self, List.drop_zero, List.nil_append]
    rfl
  · have := hl2 i (by omega)
    simp only [if_neg e]
    rw [List.drop_append_of_le_length (by omega), List.take_append_of_le_length (by rw [List.length_drop]; omega)]
    exact h i (by omega)
/-- The row of a log's messages. -/
theorem own_msgs {W : World} {B n g cap : Nat} {xs : List Value} {Nt : Nat → Option Addr × Nat × Nat} {T : Nat → ByteArray} (h : W.ownsRow B 35 8 (.slice (some ⟨g, 0, none⟩) n cap) n xs) (hM : MsgList n Nt T xs) : ∃ cs, Msgs W g n Nt (fun _ => none) T cs := by
  obtain ⟨cs, hr, hs, hle, hc, ht⟩ := RowAt.of_owns h
  refine ⟨cs, hr, fun i hi => ?_⟩
  rw [← hM i hi, ← ht, List.drop_take, List.take_take]
  congr 1
  omega
def DoneIs (B k mu he ms : Nat) (kd : Int) (v : Value) (n : Nat) (xs : List Value) (W : World) (e : Ending) (W' : World) : Prop := e = .returned v ∧ LG B k mu he ms kd v n xs W' ∧ Below B W W' ∧ Kp W W'
set_option maxHeartbeats 4000000 in
theorem done14_aux (B k mu he ms : Nat) (kd : Int) (a : Option Addr) (c n : Nat) (xs : List Value) (W : World) (H : LG B k mu he ms kd (.slice a n c) n xs W)
    (hS : ∀ W1, (∀ g cs, RowAt W g cs 35 → RowAt W1 g cs 35) → Calls Tryf.prog 17 #[.iface 168 (.slice a n c)] W1 fun e w' => e = .returned (.tuple #[]) ∧ Below W1.heap.size W1 w') :
    Calls Tryf.prog 16 #[.pointer (some ⟨mu, 0, none⟩), .pointer (some ⟨ms, 0, none⟩)] W (DoneIs B k mu he ms kd (.slice a n c) n xs W) := by
  have HH := Lib.hid H
  have HS := Lib.hid hS
  obtain ⟨hb0, hh0⟩ := H.rh
  clear H hS
  go_enter_defers Tryf.func16, Tryf.ntmps16
  go_wp2_with fail
  refine (lock_free Tryf.muLib ⟨mu, 0, none⟩ _ (HH.out.rm.cellv rfl) (HH.out.rm.frozen 0)).mono ?_
  rintro e2 w2 ⟨rfl, rfl⟩
  have rm2 := HH.out.rm.set 0 (.int .i32 1)
  have k2 := Kp.set HH.out.rm (.inl rfl) 0 (.int .i32 1)
  have rk2 := HH.out.rk.set_other (HH.out.rk.diff HH.out.rm (by decide)) 0 (.int .i32 1)
  have rh2 := hh0.set_other (hh0.diff HH.out.rm (by decide)) 0 (.int .i32 1)
  have rs2 := HH.out.rs.set_other (HH.out.rs.diff HH.out.rm (by decide)) 0 (.int .i32 1)
  have hk34 : ∀ g cs, RowAt W g cs 35 → RowAt (W.setCell ⟨mu, 0, none⟩ (.int .i32 1)) g cs 35 := fun g cs r => r.set_other (r.diff HH.out.rm (by decide)) 0 (.int .i32 1)
  have ow2 := own_kept HH.out.own hk34
  have bl2 : Below B W (W.setCell ⟨mu, 0, none⟩ (.int .i32 1)) := (Below.refl _ _).setCell HH.out.bm _
  have zz2 : B ≤ (W.setCell ⟨mu, 0, none⟩ (.int .i32 1)).heap.size := by simpa using HH.out.hB
  have hS2 := HS.out _ hk34
  obtain ⟨W2, hW2⟩ : ∃ W2, W2 = W.setCell ⟨mu, 0, none⟩ (.int .i32 1) := ⟨_, rfl⟩
  rw [← hW2] at rm2 k2 rk2 rh2 rs2 ow2 bl2 zz2 hS2 ⊢
  have c4 := rs2.cellv (j := 0) (v := .slice a n c) rfl
  have HO := Lib.hid (And.intro rm2 (And.intro k2 (And.intro rk2 (And.intro rh2 (And.intro rs2 (And.intro ow2 bl2))))))
  have HS2 := Lib.hid hS2
  have HZ := Lib.hid zz2
  clear rm2 k2 rk2 rh2 rs2 ow2 bl2 hW2 hS2 HS hk34 hh0 zz2
  go_wp2_with fail
  refine (HS2.out).mono ?_
  rintro e3 w3 ⟨rfl, hb3⟩
  obtain ⟨rm2, k2, rk2, rh2, rs2, ow2, bl2⟩ := HO.out
  have c5 := (rs2.below hb3 rs2.lt).cellv (j := 0) (v := .slice a n c) rfl
  have HB3 := Lib.hid hb3
  clear rm2 k2 rk2 rh2 rs2 ow2 bl2 hb3 c4
  go_wp2_with fail
  obtain ⟨rm2, k2, rk2, rh2, rs2, ow2, bl2⟩ := HO.out
  have rm3 := rm2.below HB3.out rm2.lt
  refine leaves_cons (f := 13) (args := #[.pointer (some ⟨mu, 0, none⟩)]) (by simp) (by simp [go_sem]) ?_
  refine (unlock_deferred Tryf.muLib ⟨mu, 0, none⟩ .returning _ (rm3.cellv rfl) (rm3.frozen 0)).mono ?_
  rintro e u' w'' ⟨rfl, rfl, rfl⟩
  have rk3 := rk2.below HB3.out rk2.lt
  have rh3 := rh2.below HB3.out rh2.lt
  have rs3 := rs2.below HB3.out rs2.lt
  have ow3 := own_kept ow2 fun g cs r => r.below HB3.out r.lt
  have bl3 : Below B W w3 := bl2.trans (HB3.out.mono HZ.out)
  refine ⟨_, results_tmp rfl _ _ _, rfl, ⟨rk3.set_other (rk3.diff rm3 (by decide)) 0 _, rm3.set 0 (.int .i32 0), ⟨_, rh3.set_other (rh3.diff rm3 (by decide)) 0 _⟩, rs3.set_other (rs3.diff rm3 (by decide)) 0 _, own_kept ow3 fun g cs r => r.set_other (r.diff rm3 (by decide)) 0 _, ?_, HH.out.bk, HH.out.bm, HH.out.bh, HH.out.bs⟩, bl3.setCell HH.out.bm _, (k2.trans (Kp.below HB3.out)).trans (Kp.set rm3 (.inl rfl) 0 _)⟩
  have h1 := HZ.out
  have h2 := HB3.out.size
  simp
  omega
theorem done14 (B k mu he ms : Nat) (kd : Int) (v : Value) (n : Nat) (xs : List Value) (Nt : Nat → Option Addr × Nat × Nat) (T : Nat → ByteArray) (W : World) (H : LG B k mu he ms kd v n xs W) (hM : MsgList n Nt T xs) (hn : n ≤ 19) :
    Calls Tryf.prog 16 #[.pointer (some ⟨mu, 0, none⟩), .pointer (some ⟨ms, 0, none⟩)] W (DoneIs B k mu he ms kd v n xs W) := by
  rcases H.own.2 with ⟨rfl, rfl⟩ | ⟨g, cap, cur, rfl, _⟩
  · exact done14_aux B k mu he ms kd none 0 0 xs W H fun W1 _ => (stab15_nil W1).mono fun e w' ⟨h1, h2⟩ => ⟨h1, h2 ▸ Below.refl _ _⟩
  · obtain ⟨cs, hm⟩ := own_msgs H.own hM
    exact done14_aux B k mu he ms kd _ cap n xs W H fun W1 hk => stab15 g n cap Nt T cs W1 ⟨hk g cs hm.row, hm.at8⟩ hn

end Go.Proofs.YtidicogmfpfibabFmt
