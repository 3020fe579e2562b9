import Derived.Test.YthmfjhadkmeldaaDoorKit
import Derived.Test.YthmfjhadkmeldaaDoorTsA
import Derived.Laws.Bits64b
namespace Go.Proofs.YthmfjhadkmeldaaDoor
open Go.ChangeShapes Go.WideShapes Go.ChangeAt Go.RowKit
set_option linter.unusedVariables false
set_option maxRecDepth 100000
set_option maxHeartbeats 2000000

open Go.Extern
theorem pow_fin : ∀ b : Fin 37, 2 ≤ b.val → b.val ≠ 2 → b.val ≠ 4 → b.val ≠ 8 → b.val ≠ 16 → b.val ≠ 32 → (bits BinOp.and IntKind.i64 (b.val : Int) ((b.val : Int) - 1) == 0) = false := by decide
theorem pow21no (b : Nat) (h2 : 2 ≤ b) (h36 : b ≤ 36) (hn : b ≠ 2 ∧ b ≠ 4 ∧ b ≠ 8 ∧ b ≠ 16 ∧ b ≠ 32) (w : World) : Calls Tryd.prog 21 #[.int .i64 (b : Int)] w fun e w' => e = .returned (.bool false) ∧ w = w' := by
  have hk := pow_fin ⟨b, by omega⟩ h2 hn.1 hn.2.1 hn.2.2.1 hn.2.2.2.1 hn.2.2.2.2
  simp only [] at hk
  go_enter Tryd.func21, Tryd.ntmps21
  go_wp2_with fail
  go_ret
  exact ⟨rfl, rfl⟩
theorem pow21y1 (w : World) : Calls Tryd.prog 21 #[.int .i64 2] w fun e w' => e = .returned (.bool true) ∧ w = w' := by
  have hk : (bits BinOp.and IntKind.i64 2 1) = 0 := by decide
  go_enter Tryd.func21, Tryd.ntmps21
  go_wp2_with fail
  go_ret
  exact ⟨rfl, rfl⟩
theorem tz22_1 (w : World) (hT : w.cell? ⟨3, 1, none⟩ = some (.int .u8 1)) : Calls Tryd.prog 22 #[.int .u64 2] w fun e w' => e = .returned (.int .i64 1) ∧ w = w' := by
  have hk : bits BinOp.and IntKind.u64 2 (IntKind.u64.wrap (-2)) = 2 := by decide
  have hk' : bits BinOp.and IntKind.u64 2 18446744073709551614 = 2 := by decide
  go_enter Tryd.func22, Tryd.ntmps22
  go_wp2
  go_ret
  exact ⟨rfl, rfl⟩
theorem pow21y2 (w : World) : Calls Tryd.prog 21 #[.int .i64 4] w fun e w' => e = .returned (.bool true) ∧ w = w' := by
  have hk : (bits BinOp.and IntKind.i64 4 3) = 0 := by decide
  go_enter Tryd.func21, Tryd.ntmps21
  go_wp2_with fail
  go_ret
  exact ⟨rfl, rfl⟩
theorem tz22_2 (w : World) (hT : w.cell? ⟨3, 3, none⟩ = some (.int .u8 2)) : Calls Tryd.prog 22 #[.int .u64 4] w fun e w' => e = .returned (.int .i64 2) ∧ w = w' := by
  have hk : bits BinOp.and IntKind.u64 4 (IntKind.u64.wrap (-4)) = 4 := by decide
  have hk' : bits BinOp.and IntKind.u64 4 18446744073709551612 = 4 := by decide
  go_enter Tryd.func22, Tryd.ntmps22
  go_wp2
  go_ret
  exact ⟨rfl, rfl⟩
theorem pow21y3 (w : World) : Calls Tryd.prog 21 #[.int .i64 8] w fun e w' => e = .returned (.bool true) ∧ w = w' := by
  have hk : (bits BinOp.and IntKind.i64 8 7) = 0 := by decide
  go_enter Tryd.func21, Tryd.ntmps21
  go_wp2_with fail
  go_ret
  exact ⟨rfl, rfl⟩
theorem tz22_3 (w : World) (hT : w.cell? ⟨3, 7, none⟩ = some (.int .u8 3)) : Calls Tryd.prog 22 #[.int .u64 8] w fun e w' => e = .returned (.int .i64 3) ∧ w = w' := by
  have hk : bits BinOp.and IntKind.u64 8 (IntKind.u64.wrap (-8)) = 8 := by decide
  have hk' : bits BinOp.and IntKind.u64 8 18446744073709551608 = 8 := by decide
  go_enter Tryd.func22, Tryd.ntmps22
  go_wp2
  go_ret
  exact ⟨rfl, rfl⟩
theorem pow21y4 (w : World) : Calls Tryd.prog 21 #[.int .i64 16] w fun e w' => e = .returned (.bool true) ∧ w = w' := by
  have hk : (bits BinOp.and IntKind.i64 16 15) = 0 := by decide
  go_enter Tryd.func21, Tryd.ntmps21
  go_wp2_with fail
  go_ret
  exact ⟨rfl, rfl⟩
theorem tz22_4 (w : World) (hT : w.cell? ⟨3, 15, none⟩ = some (.int .u8 4)) : Calls Tryd.prog 22 #[.int .u64 16] w fun e w' => e = .returned (.int .i64 4) ∧ w = w' := by
  have hk : bits BinOp.and IntKind.u64 16 (IntKind.u64.wrap (-16)) = 16 := by decide
  have hk' : bits BinOp.and IntKind.u64 16 18446744073709551600 = 16 := by decide
  go_enter Tryd.func22, Tryd.ntmps22
  go_wp2
  go_ret
  exact ⟨rfl, rfl⟩
theorem pow21y5 (w : World) : Calls Tryd.prog 21 #[.int .i64 32] w fun e w' => e = .returned (.bool true) ∧ w = w' := by
  have hk : (bits BinOp.and IntKind.i64 32 31) = 0 := by decide
  go_enter Tryd.func21, Tryd.ntmps21
  go_wp2_with fail
  go_ret
  exact ⟨rfl, rfl⟩
theorem tz22_5 (w : World) (hT : w.cell? ⟨3, 31, none⟩ = some (.int .u8 5)) : Calls Tryd.prog 22 #[.int .u64 32] w fun e w' => e = .returned (.int .i64 5) ∧ w = w' := by
  have hk : bits BinOp.and IntKind.u64 32 (IntKind.u64.wrap (-32)) = 32 := by decide
  have hk' : bits BinOp.and IntKind.u64 32 18446744073709551584 = 32 := by decide
  go_enter Tryd.func22, Tryd.ntmps22
  go_wp2
  go_ret
  exact ⟨rfl, rfl⟩
set_option maxHeartbeats 4000000 in
theorem fbgp (n : Nat) (w : World) (h1 : n < 4294967296) (b : Nat) (hb : 2 ≤ b) (hb2 : b ≤ 36) (h10 : b ≠ 10) (hn : b ≠ 2 ∧ b ≠ 4 ∧ b ≠ 8 ∧ b ≠ 16 ∧ b ≠ 32) :
    Calls Tryd.prog 15 #[.slice none 0 0, .int .u64 (n : Int), .int .i64 (b : Int), .bool false, .bool false] w fun e w' => e = .returned (.tuple #[.slice none 0 0, .string ⟨(digB b n).toArray⟩]) ∧ Below w.heap.size w w' := by
  have f10 : ((b : Int) == 10) = false := by simp; omega
  have HNN := Lib.hid hn
  clear hn
  go_enter Tryd.func15, Tryd.ntmps15
  go_wp2_with fail
  have HN := Buf.new w PZ44 44 65 PZ44_size
  have HB := (Below.refl w.heap.size w).alloc (Nat.le_refl _) (.cells PZ44 44)
  generalize w.alloc (.cells PZ44 44) = W at HN HB ⊢
  have HN' := Lib.hid (And.intro HN HB)
  clear HN HB
  go_wp2_with fail
  refine (pow21no b hb hb2 HNN.out W).mono ?_
  rintro e w1 ⟨rfl, rfl⟩
  go_wp2_with fail
  go_loopw [1, 13, 18] (fun v1 v13 _ wr => ∃ (u i : Nat) (L : List UInt8), v1 = .int .u64 (u : Int) ∧ v13 = .int .i64 (i : Int) ∧ 33 ≤ i ∧ i ≤ 65 ∧ u ≤ n ∧ u < 2 ^ (i - 33) ∧ digB b u ++ L = digB b n ∧ Buf wr w.heap.size 44 65 i L ∧ Below w.heap.size w wr) (fun v1 _ _ _ => (intOf v1).toNat)
  case atStart => exact ⟨n, 65, [], rfl, rfl, by omega, by omega, Nat.le_refl _, h1, List.append_nil _, HN'.out.1, HN'.out.2⟩
  case round =>
    obtain ⟨u, i, L, rfl, rfl, hi, hi2, hun, hu, hL, hBf, hbe⟩ := hrel
    have HX := Lib.hid (And.intro hu (And.intro hL (And.intro hBf hbe)))
    clear hu hL hBf hbe HN'
    have hgl := HX.out.2.2.1.lt
    by_cases hlt : b ≤ u
    · obtain ⟨c, hc⟩ : ∃ c, u % b = c := ⟨_, rfl⟩
      obtain ⟨q, hq⟩ : ∃ q, u / b = q := ⟨_, rfl⟩
      have hq' : (u : Int) / (b : Int) = (q : Int) := by rw [← hq]; exact (Int.natCast_ediv u b).symm
      have hmul : q * b ≤ u := by rw [← hq]; exact Nat.div_mul_le_self u b
      obtain ⟨p, hp⟩ : ∃ p, q * b = p := ⟨_, rfl⟩
      have hp' : (q : Int) * (b : Int) = (p : Int) := by rw [← hp, Int.natCast_mul]
      have hcp : (u : Int) - (p : Int) = (c : Int) := by
        have := Nat.div_add_mod u b
        rw [hq, Nat.mul_comm, hp, hc] at this
        omega
      have hpl : p ≤ u := hp ▸ hmul
      have hcb : c < 36 := by have := Nat.mod_lt u (show 0 < b by omega); omega
      have hqu : q < u := by rw [← hq]; exact Nat.div_lt_self (by omega) (by omega)
      have hidx := fun W => index36 W .u64 c hcb
      unfold dig36 at hidx
      obtain ⟨i', rfl⟩ : ∃ i', i = i' + 1 := ⟨i - 1, by omega⟩
      have hi3 : 33 ≤ i' := by
        have := HX.out.1
        by_cases e : i' + 1 = 33
        · rw [e] at this; omega
        · omega
      obtain ⟨y, hy⟩ := HX.out.2.2.1.old (j := i') (by omega)
      have hf := HX.out.2.2.1.frozen i'
      have HQ := Lib.hid (And.intro hc hq)
      have hlt' : ((b : Int)) ≤ (u : Int) := by omega
      clear hc hq hmul hp
      go_wp2_with fail
      go_roundw
      case rel =>
        refine ⟨q, i', dgb c :: L, rfl, by go_num, by omega, by omega, by omega, ?_, ?_, HX.out.2.2.1.push _, HX.out.2.2.2.setCell (Nat.le_refl _) _⟩
        · rw [← HQ.out.2]
          exact div_pow hb (by rw [show i' - 33 + 1 = i' + 1 - 33 by omega]; exact HX.out.1)
        · rw [← HQ.out.2, ← HQ.out.1, digB_step hb hlt]
          exact HX.out.2.1
      case measure => simp [intOf]; omega
    · have hcb : u < 36 := by omega
      have hidx := fun W => index36 W .u64 u hcb
      unfold dig36 at hidx
      have hL0 : dgb u :: L = digB b n := by
        have := HX.out.2.1
        rwa [digB_small (by omega)] at this
      obtain ⟨i', rfl⟩ : ∃ i', i = i' + 1 := ⟨i - 1, by omega⟩
      obtain ⟨y, hy⟩ := HX.out.2.2.1.old (j := i') (by omega)
      have hf := HX.out.2.2.1.frozen i'
      have hB2 : Buf (wr.setCell ⟨w.heap.size, i', none⟩ (.int .u8 ((dgb u).toNat : Int))) w.heap.size 44 65 i' (dgb u :: L) := HX.out.2.2.1.push _
      have hll : L.length = 65 - (i' + 1) := by have := HX.out.2.2.1.1; omega
      have hlt' : ¬ ((b : Int)) ≤ (u : Int) := by omega
      have htx := hB2.text (cap := 65 - i')
      rw [List.length_cons, hll, hL0, show 65 - (i' + 1) + 1 = 65 - i' by omega] at htx
      have hsl := slice44 w.heap.size i' (by omega)
      clear hlt hL0 hll hB2
      go_wp2_with fail
      go_ret2
      exact ⟨rfl, HX.out.2.2.2.setCell (Nat.le_refl _) _⟩

set_option maxHeartbeats 4000000 in
theorem fbgn (n : Nat) (w : World) (h0 : 0 < n) (h1 : n < 4294967296) (b : Nat) (hb : 2 ≤ b) (hb2 : b ≤ 36) (h10 : b ≠ 10) (hn : b ≠ 2 ∧ b ≠ 4 ∧ b ≠ 8 ∧ b ≠ 16 ∧ b ≠ 32) :
    Calls Tryd.prog 15 #[.slice none 0 0, .int .u64 (18446744073709551616 - (n : Int)), .int .i64 (b : Int), .bool true, .bool false] w fun e w' => e = .returned (.tuple #[.slice none 0 0, .string ⟨(45 :: digB b n).toArray⟩]) ∧ Below w.heap.size w w' := by
  have f10 : ((b : Int) == 10) = false := by simp; omega
  have HNN := Lib.hid hn
  clear hn
  have hwr : IntKind.u64.wrap (-(18446744073709551616 - (n : Int))) = (n : Int) := by rw [IntKind.wrap_u64]; omega
  go_enter Tryd.func15, Tryd.ntmps15
  go_wp2_with fail
  have HN := Buf.new w PZ44 44 65 PZ44_size
  have HB := (Below.refl w.heap.size w).alloc (Nat.le_refl _) (.cells PZ44 44)
  generalize w.alloc (.cells PZ44 44) = W at HN HB ⊢
  have HN' := Lib.hid (And.intro HN HB)
  clear HN HB
  go_wp2_with fail
  refine (pow21no b hb hb2 HNN.out W).mono ?_
  rintro e w1 ⟨rfl, rfl⟩
  go_wp2_with fail
  go_loopw [1, 13, 18] (fun v1 v13 _ wr => ∃ (u i : Nat) (L : List UInt8), v1 = .int .u64 (u : Int) ∧ v13 = .int .i64 (i : Int) ∧ 33 ≤ i ∧ i ≤ 65 ∧ u ≤ n ∧ u < 2 ^ (i - 33) ∧ digB b u ++ L = digB b n ∧ Buf wr w.heap.size 44 65 i L ∧ Below w.heap.size w wr) (fun v1 _ _ _ => (intOf v1).toNat)
  case atStart => exact ⟨n, 65, [], rfl, rfl, by omega, by omega, Nat.le_refl _, h1, List.append_nil _, HN'.out.1, HN'.out.2⟩
  case round =>
    obtain ⟨u, i, L, rfl, rfl, hi, hi2, hun, hu, hL, hBf, hbe⟩ := hrel
    have HX := Lib.hid (And.intro hu (And.intro hL (And.intro hBf hbe)))
    clear hu hL hBf hbe HN'
    have hgl := HX.out.2.2.1.lt
    by_cases hlt : b ≤ u
    · obtain ⟨c, hc⟩ : ∃ c, u % b = c := ⟨_, rfl⟩
      obtain ⟨q, hq⟩ : ∃ q, u / b = q := ⟨_, rfl⟩
      have hq' : (u : Int) / (b : Int) = (q : Int) := by rw [← hq]; exact (Int.natCast_ediv u b).symm
      have hmul : q * b ≤ u := by rw [← hq]; exact Nat.div_mul_le_self u b
      obtain ⟨p, hp⟩ : ∃ p, q * b = p := ⟨_, rfl⟩
      have hp' : (q : Int) * (b : Int) = (p : Int) := by rw [← hp, Int.natCast_mul]
      have hcp : (u : Int) - (p : Int) = (c : Int) := by
        have := Nat.div_add_mod u b
        rw [hq, Nat.mul_comm, hp, hc] at this
        omega
      have hpl : p ≤ u := hp ▸ hmul
      have hcb : c < 36 := by have := Nat.mod_lt u (show 0 < b by omega); omega
      have hqu : q < u := by rw [← hq]; exact Nat.div_lt_self (by omega) (by omega)
      have hidx := fun W => index36 W .u64 c hcb
      unfold dig36 at hidx
      obtain ⟨i', rfl⟩ : ∃ i', i = i' + 1 := ⟨i - 1, by omega⟩
      have hi3 : 33 ≤ i' := by
        have := HX.out.1
        by_cases e : i' + 1 = 33
        · rw [e] at this; omega
        · omega
      obtain ⟨y, hy⟩ := HX.out.2.2.1.old (j := i') (by omega)
      have hf := HX.out.2.2.1.frozen i'
      have HQ := Lib.hid (And.intro hc hq)
      have hlt' : ((b : Int)) ≤ (u : Int) := by omega
      clear hc hq hmul hp
      go_wp2_with fail
      go_roundw
      case rel =>
        refine ⟨q, i', dgb c :: L, rfl, by go_num, by omega, by omega, by omega, ?_, ?_, HX.out.2.2.1.push _, HX.out.2.2.2.setCell (Nat.le_refl _) _⟩
        · rw [← HQ.out.2]
          exact div_pow hb (by rw [show i' - 33 + 1 = i' + 1 - 33 by omega]; exact HX.out.1)
        · rw [← HQ.out.2, ← HQ.out.1, digB_step hb hlt]
          exact HX.out.2.1
      case measure => simp [intOf]; omega
    · have hcb : u < 36 := by omega
      have hidx := fun W => index36 W .u64 u hcb
      unfold dig36 at hidx
      have hL0 : dgb u :: L = digB b n := by
        have := HX.out.2.1
        rwa [digB_small (by omega)] at this
      obtain ⟨i', rfl⟩ : ∃ i', i = i' + 1 := ⟨i - 1, by omega⟩
      obtain ⟨y, hy⟩ := HX.out.2.2.1.old (j := i') (by omega)
      have hf := HX.out.2.2.1.frozen i'
      have hB2 : Buf (wr.setCell ⟨w.heap.size, i', none⟩ (.int .u8 ((dgb u).toNat : Int))) w.heap.size 44 65 i' (dgb u :: L) := HX.out.2.2.1.push _
      have hll : L.length = 65 - (i' + 1) := by have := HX.out.2.2.1.1; omega
      have hlt' : ¬ ((b : Int)) ≤ (u : Int) := by omega
      obtain ⟨i2, rfl⟩ : ∃ i2, i' = i2 + 1 := ⟨i' - 1, by omega⟩
      have hB3 : Buf ((wr.setCell ⟨w.heap.size, i2 + 1, none⟩ (.int .u8 ((dgb u).toNat : Int))).setCell ⟨w.heap.size, i2, none⟩ (.int .u8 45)) w.heap.size 44 65 i2 (45 :: dgb u :: L) := hB2.push 45
      obtain ⟨y2, hy2⟩ := HX.out.2.2.1.old (j := i2) (by omega)
      have hf2 := HX.out.2.2.1.frozen i2
      have htx := hB3.text (cap := 65 - i2)
      rw [List.length_cons, List.length_cons, hll, hL0, show 65 - (i2 + 1 + 1) + 1 + 1 = 65 - i2 by omega] at htx
      have hsl := slice44 w.heap.size i2 (by omega)
      clear hlt hL0 hll hB2 hB3
      go_wp2_with fail
      go_ret2
      exact ⟨rfl, (HX.out.2.2.2.setCell (Nat.le_refl _) _).setCell (Nat.le_refl _) _⟩

set_option maxHeartbeats 4000000 in
theorem fbp1p (n : Nat) (w : World) (h1 : n < 4294967296) (hT : w.cell? ⟨3, 1, none⟩ = some (.int .u8 1)) (hT3 : 3 < w.heap.size) :
    Calls Tryd.prog 15 #[.slice none 0 0, .int .u64 (n : Int), .int .i64 2, .bool false, .bool false] w fun e w' => e = .returned (.tuple #[.slice none 0 0, .string ⟨(digB 2 n).toArray⟩]) ∧ Below w.heap.size w w' := by
  have HT := Lib.hid hT
  clear hT
  go_enter Tryd.func15, Tryd.ntmps15
  go_wp2_with fail
  have HN := Buf.new w PZ44 44 65 PZ44_size
  have HB := (Below.refl w.heap.size w).alloc (Nat.le_refl _) (.cells PZ44 44)
  generalize w.alloc (.cells PZ44 44) = W at HN HB ⊢
  have HN' := Lib.hid (And.intro HN HB)
  clear HN HB
  go_wp2_with fail
  refine (pow21y1 W).mono ?_
  rintro e w1 ⟨rfl, rfl⟩
  go_wp2_with fail
  refine (tz22_1 W ((HN'.out.2.cell (p := ⟨3, 1, none⟩) hT3).trans HT.out)).mono ?_
  rintro e w1 ⟨rfl, rfl⟩
  go_wp2_with fail
  go_loopw [1, 13] (fun v1 v13 wr => ∃ (u i : Nat) (L : List UInt8), v1 = .int .u64 (u : Int) ∧ v13 = .int .i64 (i : Int) ∧ 33 ≤ i ∧ i ≤ 65 ∧ u ≤ n ∧ u < 2 ^ (i - 33) ∧ digB 2 u ++ L = digB 2 n ∧ Buf wr w.heap.size 44 65 i L ∧ Below w.heap.size w wr) (fun v1 _ _ => (intOf v1).toNat)
  case atStart => exact ⟨n, 65, [], rfl, rfl, by omega, by omega, Nat.le_refl _, h1, List.append_nil _, HN'.out.1, HN'.out.2⟩
  case round =>
    obtain ⟨u, i, L, rfl, rfl, hi, hi2, hun, hu, hL, hBf, hbe⟩ := hrel
    have HX := Lib.hid (And.intro hu (And.intro hL (And.intro hBf hbe)))
    clear hu hL hBf hbe HN'
    have hgl := HX.out.2.2.1.lt
    by_cases hlt : 2 ≤ u
    · obtain ⟨c, hc⟩ : ∃ c, u % 2 = c := ⟨_, rfl⟩
      obtain ⟨q, hq⟩ : ∃ q, u / 2 = q := ⟨_, rfl⟩
      have hand : bits BinOp.and IntKind.u64 (u : Int) 1 = (c : Int) := by
        rw [show (1 : Int) = ((1 : Nat) : Int) from rfl, bits_and_u64_nat u 1 (by omega) (by omega), ← hc, show (1 : Nat) = 2 ^ 1 - 1 from rfl, Nat.and_two_pow_sub_one_eq_mod]
      have hshr : (u : Int) / 2 = (q : Int) := by rw [← hq]; exact (Int.natCast_ediv u 2).symm
      have hcb : c < 36 := by have := Nat.mod_lt u (show 0 < 2 by omega); omega
      have hqu : q < u := by rw [← hq]; exact Nat.div_lt_self (by omega) (by omega)
      have hidx := fun W => index36 W .u64 c hcb
      unfold dig36 at hidx
      obtain ⟨i', rfl⟩ : ∃ i', i = i' + 1 := ⟨i - 1, by omega⟩
      have hi3 : 33 ≤ i' := by
        have := HX.out.1
        by_cases e : i' + 1 = 33
        · rw [e] at this; omega
        · omega
      obtain ⟨y, hy⟩ := HX.out.2.2.1.old (j := i') (by omega)
      have hf := HX.out.2.2.1.frozen i'
      have HQ := Lib.hid (And.intro hc hq)
      have hlt' : (2) ≤ (u : Int) := by omega
      clear hc hq
      go_wp2_with fail
      go_roundw
      case rel =>
        refine ⟨q, i', dgb c :: L, rfl, by go_num, by omega, by omega, by omega, ?_, ?_, HX.out.2.2.1.push _, HX.out.2.2.2.setCell (Nat.le_refl _) _⟩
        · rw [← HQ.out.2]
          exact div_pow (by omega) (by rw [show i' - 33 + 1 = i' + 1 - 33 by omega]; exact HX.out.1)
        · rw [← HQ.out.2, ← HQ.out.1, digB_step (by omega) hlt]
          exact HX.out.2.1
      case measure => simp [intOf]; omega
    · have hcb : u < 36 := by omega
      have hidx := fun W => index36 W .u64 u hcb
      unfold dig36 at hidx
      have hL0 : dgb u :: L = digB 2 n := by
        have := HX.out.2.1
        rwa [digB_small (by omega)] at this
      obtain ⟨i', rfl⟩ : ∃ i', i = i' + 1 := ⟨i - 1, by omega⟩
      obtain ⟨y, hy⟩ := HX.out.2.2.1.old (j := i') (by omega)
      have hf := HX.out.2.2.1.frozen i'
      have hB2 : Buf (wr.setCell ⟨w.heap.size, i', none⟩ (.int .u8 ((dgb u).toNat : Int))) w.heap.size 44 65 i' (dgb u :: L) := HX.out.2.2.1.push _
      have hll : L.length = 65 - (i' + 1) := by have := HX.out.2.2.1.1; omega
      have hlt' : ¬ (2) ≤ (u : Int) := by omega
      have htx := hB2.text (cap := 65 - i')
      rw [List.length_cons, hll, hL0, show 65 - (i' + 1) + 1 = 65 - i' by omega] at htx
      have hsl := slice44 w.heap.size i' (by omega)
      clear hlt hL0 hll hB2
      go_wp2_with fail
      go_ret2
      exact ⟨rfl, HX.out.2.2.2.setCell (Nat.le_refl _) _⟩

set_option maxHeartbeats 4000000 in
theorem fbp1n (n : Nat) (w : World) (h0 : 0 < n) (h1 : n < 4294967296) (hT : w.cell? ⟨3, 1, none⟩ = some (.int .u8 1)) (hT3 : 3 < w.heap.size) :
    Calls Tryd.prog 15 #[.slice none 0 0, .int .u64 (18446744073709551616 - (n : Int)), .int .i64 2, .bool true, .bool false] w fun e w' => e = .returned (.tuple #[.slice none 0 0, .string ⟨(45 :: digB 2 n).toArray⟩]) ∧ Below w.heap.size w w' := by
  have HT := Lib.hid hT
  clear hT
  have hwr : IntKind.u64.wrap (-(18446744073709551616 - (n : Int))) = (n : Int) := by rw [IntKind.wrap_u64]; omega
  go_enter Tryd.func15, Tryd.ntmps15
  go_wp2_with fail
  have HN := Buf.new w PZ44 44 65 PZ44_size
  have HB := (Below.refl w.heap.size w).alloc (Nat.le_refl _) (.cells PZ44 44)
  generalize w.alloc (.cells PZ44 44) = W at HN HB ⊢
  have HN' := Lib.hid (And.intro HN HB)
  clear HN HB
  go_wp2_with fail
  refine (pow21y1 W).mono ?_
  rintro e w1 ⟨rfl, rfl⟩
  go_wp2_with fail
  refine (tz22_1 W ((HN'.out.2.cell (p := ⟨3, 1, none⟩) hT3).trans HT.out)).mono ?_
  rintro e w1 ⟨rfl, rfl⟩
  go_wp2_with fail
  go_loopw [1, 13] (fun v1 v13 wr => ∃ (u i : Nat) (L : List UInt8), v1 = .int .u64 (u : Int) ∧ v13 = .int .i64 (i : Int) ∧ 33 ≤ i ∧ i ≤ 65 ∧ u ≤ n ∧ u < 2 ^ (i - 33) ∧ digB 2 u ++ L = digB 2 n ∧ Buf wr w.heap.size 44 65 i L ∧ Below w.heap.size w wr) (fun v1 _ _ => (intOf v1).toNat)
  case atStart => exact ⟨n, 65, [], rfl, rfl, by omega, by omega, Nat.le_refl _, h1, List.append_nil _, HN'.out.1, HN'.out.2⟩
  case round =>
    obtain ⟨u, i, L, rfl, rfl, hi, hi2, hun, hu, hL, hBf, hbe⟩ := hrel
    have HX := Lib.hid (And.intro hu (And.intro hL (And.intro hBf hbe)))
    clear hu hL hBf hbe HN'
    have hgl := HX.out.2.2.1.lt
    by_cases hlt : 2 ≤ u
    · obtain ⟨c, hc⟩ : ∃ c, u % 2 = c := ⟨_, rfl⟩
      obtain ⟨q, hq⟩ : ∃ q, u / 2 = q := ⟨_, rfl⟩
      have hand : bits BinOp.and IntKind.u64 (u : Int) 1 = (c : Int) := by
        rw [show (1 : Int) = ((1 : Nat) : Int) from rfl, bits_and_u64_nat u 1 (by omega) (by omega), ← hc, show (1 : Nat) = 2 ^ 1 - 1 from rfl, Nat.and_two_pow_sub_one_eq_mod]
      have hshr : (u : Int) / 2 = (q : Int) := by rw [← hq]; exact (Int.natCast_ediv u 2).symm
      have hcb : c < 36 := by have := Nat.mod_lt u (show 0 < 2 by omega); omega
      have hqu : q < u := by rw [← hq]; exact Nat.div_lt_self (by omega) (by omega)
      have hidx := fun W => index36 W .u64 c hcb
      unfold dig36 at hidx
      obtain ⟨i', rfl⟩ : ∃ i', i = i' + 1 := ⟨i - 1, by omega⟩
      have hi3 : 33 ≤ i' := by
        have := HX.out.1
        by_cases e : i' + 1 = 33
        · rw [e] at this; omega
        · omega
      obtain ⟨y, hy⟩ := HX.out.2.2.1.old (j := i') (by omega)
      have hf := HX.out.2.2.1.frozen i'
      have HQ := Lib.hid (And.intro hc hq)
      have hlt' : (2) ≤ (u : Int) := by omega
      clear hc hq
      go_wp2_with fail
      go_roundw
      case rel =>
        refine ⟨q, i', dgb c :: L, rfl, by go_num, by omega, by omega, by omega, ?_, ?_, HX.out.2.2.1.push _, HX.out.2.2.2.setCell (Nat.le_refl _) _⟩
        · rw [← HQ.out.2]
          exact div_pow (by omega) (by rw [show i' - 33 + 1 = i' + 1 - 33 by omega]; exact HX.out.1)
        · rw [← HQ.out.2, ← HQ.out.1, digB_step (by omega) hlt]
          exact HX.out.2.1
      case measure => simp [intOf]; omega
    · have hcb : u < 36 := by omega
      have hidx := fun W => index36 W .u64 u hcb
      unfold dig36 at hidx
      have hL0 : dgb u :: L = digB 2 n := by
        have := HX.out.2.1
        rwa [digB_small (by omega)] at this
      obtain ⟨i', rfl⟩ : ∃ i', i = i' + 1 := ⟨i - 1, by omega⟩
      obtain ⟨y, hy⟩ := HX.out.2.2.1.old (j := i') (by omega)
      have hf := HX.out.2.2.1.frozen i'
      have hB2 : Buf (wr.setCell ⟨w.heap.size, i', none⟩ (.int .u8 ((dgb u).toNat : Int))) w.heap.size 44 65 i' (dgb u :: L) := HX.out.2.2.1.push _
      have hll : L.length = 65 - (i' + 1) := by have := HX.out.2.2.1.1; omega
      have hlt' : ¬ (2) ≤ (u : Int) := by omega
      obtain ⟨i2, rfl⟩ : ∃ i2, i' = i2 + 1 := ⟨i' - 1, by omega⟩
      have hB3 : Buf ((wr.setCell ⟨w.heap.size, i2 + 1, none⟩ (.int .u8 ((dgb u).toNat : Int))).setCell ⟨w.heap.size, i2, none⟩ (.int .u8 45)) w.heap.size 44 65 i2 (45 :: dgb u :: L) := hB2.push 45
      obtain ⟨y2, hy2⟩ := HX.out.2.2.1.old (j := i2) (by omega)
      have hf2 := HX.out.2.2.1.frozen i2
      have htx := hB3.text (cap := 65 - i2)
      rw [List.length_cons, List.length_cons, hll, hL0, show 65 - (i2 + 1 + 1) + 1 + 1 = 65 - i2 by omega] at htx
      have hsl := slice44 w.heap.size i2 (by omega)
      clear hlt hL0 hll hB2 hB3
      go_wp2_with fail
      go_ret2
      exact ⟨rfl, (HX.out.2.2.2.setCell (Nat.le_refl _) _).setCell (Nat.le_refl _) _⟩

set_option maxHeartbeats 4000000 in
theorem fbp2p (n : Nat) (w : World) (h1 : n < 4294967296) (hT : w.cell? ⟨3, 3, none⟩ = some (.int .u8 2)) (hT3 : 3 < w.heap.size) :
    Calls Tryd.prog 15 #[.slice none 0 0, .int .u64 (n : Int), .int .i64 4, .bool false, .bool false] w fun e w' => e = .returned (.tuple #[.slice none 0 0, .string ⟨(digB 4 n).toArray⟩]) ∧ Below w.heap.size w w' := by
  have HT := Lib.hid hT
  clear hT
  go_enter Tryd.func15, Tryd.ntmps15
  go_wp2_with fail
  have HN := Buf.new w PZ44 44 65 PZ44_size
  have HB := (Below.refl w.heap.size w).alloc (Nat.le_refl _) (.cells PZ44 44)
  generalize w.alloc (.cells PZ44 44) = W at HN HB ⊢
  have HN' := Lib.hid (And.intro HN HB)
  clear HN HB
  go_wp2_with fail
  refine (pow21y2 W).mono ?_
  rintro e w1 ⟨rfl, rfl⟩
  go_wp2_with fail
  refine (tz22_2 W ((HN'.out.2.cell (p := ⟨3, 3, none⟩) hT3).trans HT.out)).mono ?_
  rintro e w1 ⟨rfl, rfl⟩
  go_wp2_with fail
  go_loopw [1, 13] (fun v1 v13 wr => ∃ (u i : Nat) (L : List UInt8), v1 = .int .u64 (u : Int) ∧ v13 = .int .i64 (i : Int) ∧ 33 ≤ i ∧ i ≤ 65 ∧ u ≤ n ∧ u < 2 ^ (i - 33) ∧ digB 4 u ++ L = digB 4 n ∧ Buf wr w.heap.size 44 65 i L ∧ Below w.heap.size w wr) (fun v1 _ _ => (intOf v1).toNat)
  case atStart => exact ⟨n, 65, [], rfl, rfl, by omega, by omega, Nat.le_refl _, h1, List.append_nil _, HN'.out.1, HN'.out.2⟩
  case round =>
    obtain ⟨u, i, L, rfl, rfl, hi, hi2, hun, hu, hL, hBf, hbe⟩ := hrel
    have HX := Lib.hid (And.intro hu (And.intro hL (And.intro hBf hbe)))
    clear hu hL hBf hbe HN'
    have hgl := HX.out.2.2.1.lt
    by_cases hlt : 4 ≤ u
    · obtain ⟨c, hc⟩ : ∃ c, u % 4 = c := ⟨_, rfl⟩
      obtain ⟨q, hq⟩ : ∃ q, u / 4 = q := ⟨_, rfl⟩
      have hand : bits BinOp.and IntKind.u64 (u : Int) 3 = (c : Int) := by
        rw [show (3 : Int) = ((3 : Nat) : Int) from rfl, bits_and_u64_nat u 3 (by omega) (by omega), ← hc, show (3 : Nat) = 2 ^ 2 - 1 from rfl, Nat.and_two_pow_sub_one_eq_mod]
      have hshr : (u : Int) / 4 = (q : Int) := by rw [← hq]; exact (Int.natCast_ediv u 4).symm
      have hcb : c < 36 := by have := Nat.mod_lt u (show 0 < 4 by omega); omega
      have hqu : q < u := by rw [← hq]; exact Nat.div_lt_self (by omega) (by omega)
      have hidx := fun W => index36 W .u64 c hcb
      unfold dig36 at hidx
      obtain ⟨i', rfl⟩ : ∃ i', i = i' + 1 := ⟨i - 1, by omega⟩
      have hi3 : 33 ≤ i' := by
        have := HX.out.1
        by_cases e : i' + 1 = 33
        · rw [e] at this; omega
        · omega
      obtain ⟨y, hy⟩ := HX.out.2.2.1.old (j := i') (by omega)
      have hf := HX.out.2.2.1.frozen i'
      have HQ := Lib.hid (And.intro hc hq)
      have hlt' : (4) ≤ (u : Int) := by omega
      clear hc hq
      go_wp2_with fail
      go_roundw
      case rel =>
        refine ⟨q, i', dgb c :: L, rfl, by go_num, by omega, by omega, by omega, ?_, ?_, HX.out.2.2.1.push _, HX.out.2.2.2.setCell (Nat.le_refl _) _⟩
        · rw [← HQ.out.2]
          exact div_pow (by omega) (by rw [show i' - 33 + 1 = i' + 1 - 33 by omega]; exact HX.out.1)
        · rw [← HQ.out.2, ← HQ.out.1, digB_step (by omega) hlt]
          exact HX.out.2.1
      case measure => simp [intOf]; omega
    · have hcb : u < 36 := by omega
      have hidx := fun W => index36 W .u64 u hcb
      unfold dig36 at hidx
      have hL0 : dgb u :: L = digB 4 n := by
        have := HX.out.2.1
        rwa [digB_small (by omega)] at this
      obtain ⟨i', rfl⟩ : ∃ i', i = i' + 1 := ⟨i - 1, by omega⟩
      obtain ⟨y, hy⟩ := HX.out.2.2.1.old (j := i') (by omega)
      have hf := HX.out.2.2.1.frozen i'
      have hB2 : Buf (wr.setCell ⟨w.heap.size, i', none⟩ (.int .u8 ((dgb u).toNat : Int))) w.heap.size 44 65 i' (dgb u :: L) := HX.out.2.2.1.push _
      have hll : L.length = 65 - (i' + 1) := by have := HX.out.2.2.1.1; omega
      have hlt' : ¬ (4) ≤ (u : Int) := by omega
      have htx := hB2.text (cap := 65 - i')
      rw [List.length_cons, hll, hL0, show 65 - (i' + 1) + 1 = 65 - i' by omega] at htx
      have hsl := slice44 w.heap.size i' (by omega)
      clear hlt hL0 hll hB2
      go_wp2_with fail
      go_ret2
      exact ⟨rfl, HX.out.2.2.2.setCell (Nat.le_refl _) _⟩

set_option maxHeartbeats 4000000 in
theorem fbp2n (n : Nat) (w : World) (h0 : 0 < n) (h1 : n < 4294967296) (hT : w.cell? ⟨3, 3, none⟩ = some (.int .u8 2)) (hT3 : 3 < w.heap.size) :
    Calls Tryd.prog 15 #[.slice none 0 0, .int .u64 (18446744073709551616 - (n : Int)), .int .i64 4, .bool true, .bool false] w fun e w' => e = .returned (.tuple #[.slice none 0 0, .string ⟨(45 :: digB 4 n).toArray⟩]) ∧ Below w.heap.size w w' := by
  have HT := Lib.hid hT
  clear hT
  have hwr : IntKind.u64.wrap (-(18446744073709551616 - (n : Int))) = (n : Int) := by rw [IntKind.wrap_u64]; omega
  go_enter Tryd.func15, Tryd.ntmps15
  go_wp2_with fail
  have HN := Buf.new w PZ44 44 65 PZ44_size
  have HB := (Below.refl w.heap.size w).alloc (Nat.le_refl _) (.cells PZ44 44)
  generalize w.alloc (.cells PZ44 44) = W at HN HB ⊢
  have HN' := Lib.hid (And.intro HN HB)
  clear HN HB
  go_wp2_with fail
  refine (pow21y2 W).mono ?_
  rintro e w1 ⟨rfl, rfl⟩
  go_wp2_with fail
  refine (tz22_2 W ((HN'.out.2.cell (p := ⟨3, 3, none⟩) hT3).trans HT.out)).mono ?_
  rintro e w1 ⟨rfl, rfl⟩
  go_wp2_with fail
  go_loopw [1, 13] (fun v1 v13 wr => ∃ (u i : Nat) (L : List UInt8), v1 = .int .u64 (u : Int) ∧ v13 = .int .i64 (i : Int) ∧ 33 ≤ i ∧ i ≤ 65 ∧ u ≤ n ∧ u < 2 ^ (i - 33) ∧ digB 4 u ++ L = digB 4 n ∧ Buf wr w.heap.size 44 65 i L ∧ Below w.heap.size w wr) (fun v1 _ _ => (intOf v1).toNat)
  case atStart => exact ⟨n, 65, [], rfl, rfl, by omega, by omega, Nat.le_refl _, h1, List.append_nil _, HN'.out.1, HN'.out.2⟩
  case round =>
    obtain ⟨u, i, L, rfl, rfl, hi, hi2, hun, hu, hL, hBf, hbe⟩ := hrel
    have HX := Lib.hid (And.intro hu (And.intro hL (And.intro hBf hbe)))
    clear hu hL hBf hbe HN'
    have hgl := HX.out.2.2.1.lt
    by_cases hlt : 4 ≤ u
    · obtain ⟨c, hc⟩ : ∃ c, u % 4 = c := ⟨_, rfl⟩
      obtain ⟨q, hq⟩ : ∃ q, u / 4 = q := ⟨_, rfl⟩
      have hand : bits BinOp.and IntKind.u64 (u : Int) 3 = (c : Int) := by
        rw [show (3 : Int) = ((3 : Nat) : Int) from rfl, bits_and_u64_nat u 3 (by omega) (by omega), ← hc, show (3 : Nat) = 2 ^ 2 - 1 from rfl, Nat.and_two_pow_sub_one_eq_mod]
      have hshr : (u : Int) / 4 = (q : Int) := by rw [← hq]; exact (Int.natCast_ediv u 4).symm
      have hcb : c < 36 := by have := Nat.mod_lt u (show 0 < 4 by omega); omega
      have hqu : q < u := by rw [← hq]; exact Nat.div_lt_self (by omega) (by omega)
      have hidx := fun W => index36 W .u64 c hcb
      unfold dig36 at hidx
      obtain ⟨i', rfl⟩ : ∃ i', i = i' + 1 := ⟨i - 1, by omega⟩
      have hi3 : 33 ≤ i' := by
        have := HX.out.1
        by_cases e : i' + 1 = 33
        · rw [e] at this; omega
        · omega
      obtain ⟨y, hy⟩ := HX.out.2.2.1.old (j := i') (by omega)
      have hf := HX.out.2.2.1.frozen i'
      have HQ := Lib.hid (And.intro hc hq)
      have hlt' : (4) ≤ (u : Int) := by omega
      clear hc hq
      go_wp2_with fail
      go_roundw
      case rel =>
        refine ⟨q, i', dgb c :: L, rfl, by go_num, by omega, by omega, by omega, ?_, ?_, HX.out.2.2.1.push _, HX.out.2.2.2.setCell (Nat.le_refl _) _⟩
        · rw [← HQ.out.2]
          exact div_pow (by omega) (by rw [show i' - 33 + 1 = i' + 1 - 33 by omega]; exact HX.out.1)
        · rw [← HQ.out.2, ← HQ.out.1, digB_step (by omega) hlt]
          exact HX.out.2.1
      case measure => simp [intOf]; omega
    · have hcb : u < 36 := by omega
      have hidx := fun W => index36 W .u64 u hcb
      unfold dig36 at hidx
      have hL0 : dgb u :: L = digB 4 n := by
        have := HX.out.2.1
        rwa [digB_small (by omega)] at this
      obtain ⟨i', rfl⟩ : ∃ i', i = i' + 1 := ⟨i - 1, by omega⟩
      obtain ⟨y, hy⟩ := HX.out.2.2.1.old (j := i') (by omega)
      have hf := HX.out.2.2.1.frozen i'
      have hB2 : Buf (wr.setCell ⟨w.heap.size, i', none⟩ (.int .u8 ((dgb u).toNat : Int))) w.heap.size 44 65 i' (dgb u :: L) := HX.out.2.2.1.push _
      have hll : L.length = 65 - (i' + 1) := by have := HX.out.2.2.1.1; omega
      have hlt' : ¬ (4) ≤ (u : Int) := by omega
      obtain ⟨i2, rfl⟩ : ∃ i2, i' = i2 + 1 := ⟨i' - 1, by omega⟩
      have hB3 : Buf ((wr.setCell ⟨w.heap.size, i2 + 1, none⟩ (.int .u8 ((dgb u).toNat : Int))).setCell ⟨w.heap.size, i2, none⟩ (.int .u8 45)) w.heap.size 44 65 i2 (45 :: dgb u :: L) := hB2.push 45
      obtain ⟨y2, hy2⟩ := HX.out.2.2.1.old (j := i2) (by omega)
      have hf2 := HX.out.2.2.1.frozen i2
      have htx := hB3.text (cap := 65 - i2)
      rw [List.length_cons, List.length_cons, hll, hL0, show 65 - (i2 + 1 + 1) + 1 + 1 = 65 - i2 by omega] at htx
      have hsl := slice44 w.heap.size i2 (by omega)
      clear hlt hL0 hll hB2 hB3
      go_wp2_with fail
      go_ret2
      exact ⟨rfl, (HX.out.2.2.2.setCell (Nat.le_refl _) _).setCell (Nat.le_refl _) _⟩

set_option maxHeartbeats 4000000 in
theorem fbp3p (n : Nat) (w : World) (h1 : n < 4294967296) (hT : w.cell? ⟨3, 7, none⟩ = some (.int .u8 3)) (hT3 : 3 < w.heap.size) :
    Calls Tryd.prog 15 #[.slice none 0 0, .int .u64 (n : Int), .int .i64 8, .bool false, .bool false] w fun e w' => e = .returned (.tuple #[.slice none 0 0, .string ⟨(digB 8 n).toArray⟩]) ∧ Below w.heap.size w w' := by
  have HT := Lib.hid hT
  clear hT
  go_enter Tryd.func15, Tryd.ntmps15
  go_wp2_with fail
  have HN := Buf.new w PZ44 44 65 PZ44_size
  have HB := (Below.refl w.heap.size w).alloc (Nat.le_refl _) (.cells PZ44 44)
  generalize w.alloc (.cells PZ44 44) = W at HN HB ⊢
  have HN' := Lib.hid (And.intro HN HB)
  clear HN HB
  go_wp2_with fail
  refine (pow21y3 W).mono ?_
  rintro e w1 ⟨rfl, rfl⟩
  go_wp2_with fail
  refine (tz22_3 W ((HN'.out.2.cell (p := ⟨3, 7, none⟩) hT3).trans HT.out)).mono ?_
  rintro e w1 ⟨rfl, rfl⟩
  go_wp2_with fail
  go_loopw [1, 13] (fun v1 v13 wr => ∃ (u i : Nat) (L : List UInt8), v1 = .int .u64 (u : Int) ∧ v13 = .int .i64 (i : Int) ∧ 33 ≤ i ∧ i ≤ 65 ∧ u ≤ n ∧ u < 2 ^ (i - 33) ∧ digB 8 u ++ L = digB 8 n ∧ Buf wr w.heap.size 44 65 i L ∧ Below w.heap.size w wr) (fun v1 _ _ => (intOf v1).toNat)
  case atStart => exact ⟨n, 65, [], rfl, rfl, by omega, by omega, Nat.le_refl _, h1, List.append_nil _, HN'.out.1, HN'.out.2⟩
  case round =>
    obtain ⟨u, i, L, rfl, rfl, hi, hi2, hun, hu, hL, hBf, hbe⟩ := hrel
    have HX := Lib.hid (And.intro hu (And.intro hL (And.intro hBf hbe)))
    clear hu hL hBf hbe HN'
    have hgl := HX.out.2.2.1.lt
    by_cases hlt : 8 ≤ u
    · obtain ⟨c, hc⟩ : ∃ c, u % 8 = c := ⟨_, rfl⟩
      obtain ⟨q, hq⟩ : ∃ q, u / 8 = q := ⟨_, rfl⟩
      have hand : bits BinOp.and IntKind.u64 (u : Int) 7 = (c : Int) := by
        rw [show (7 : Int) = ((7 : Nat) : Int) from rfl, bits_and_u64_nat u 7 (by omega) (by omega), ← hc, show (7 : Nat) = 2 ^ 3 - 1 from rfl, Nat.and_two_pow_sub_one_eq_mod]
      have hshr : (u : Int) / 8 = (q : Int) := by rw [← hq]; exact (Int.natCast_ediv u 8).symm
      have hcb : c < 36 := by have := Nat.mod_lt u (show 0 < 8 by omega); omega
      have hqu : q < u := by rw [← hq]; exact Nat.div_lt_self (by omega) (by omega)
      have hidx := fun W => index36 W .u64 c hcb
      unfold dig36 at hidx
      obtain ⟨i', rfl⟩ : ∃ i', i = i' + 1 := ⟨i - 1, by omega⟩
      have hi3 : 33 ≤ i' := by
        have := HX.out.1
        by_cases e : i' + 1 = 33
        · rw [e] at this; omega
        · omega
      obtain ⟨y, hy⟩ := HX.out.2.2.1.old (j := i') (by omega)
      have hf := HX.out.2.2.1.frozen i'
      have HQ := Lib.hid (And.intro hc hq)
      have hlt' : (8) ≤ (u : Int) := by omega
      clear hc hq
      go_wp2_with fail
      go_roundw
      case rel =>
        refine ⟨q, i', dgb c :: L, rfl, by go_num, by omega, by omega, by omega, ?_, ?_, HX.out.2.2.1.push _, HX.out.2.2.2.setCell (Nat.le_refl _) _⟩
        · rw [← HQ.out.2]
          exact div_pow (by omega) (by rw [show i' - 33 + 1 = i' + 1 - 33 by omega]; exact HX.out.1)
        · rw [← HQ.out.2, ← HQ.out.1, digB_step (by omega) hlt]
          exact HX.out.2.1
      case measure => simp [intOf]; omega
    · have hcb : u < 36 := by omega
      have hidx := fun W => index36 W .u64 u hcb
      unfold dig36 at hidx
      have hL0 : dgb u :: L = digB 8 n := by
        have := HX.out.2.1
        rwa [digB_small (by omega)] at this
      obtain ⟨i', rfl⟩ : ∃ i', i = i' + 1 := ⟨i - 1, by omega⟩
      obtain ⟨y, hy⟩ := HX.out.2.2.1.old (j := i') (by omega)
      have hf := HX.out.2.2.1.frozen i'
      have hB2 : Buf (wr.setCell ⟨w.heap.size, i', none⟩ (.int .u8 ((dgb u).toNat : Int))) w.heap.size 44 65 i' (dgb u :: L) := HX.out.2.2.1.push _
      have hll : L.length = 65 - (i' + 1) := by have := HX.out.2.2.1.1; omega
      have hlt' : ¬ (8) ≤ (u : Int) := by omega
      have htx := hB2.text (cap := 65 - i')
      rw [List.length_cons, hll, hL0, show 65 - (i' + 1) + 1 = 65 - i' by omega] at htx
      have hsl := slice44 w.heap.size i' (by omega)
      clear hlt hL0 hll hB2
      go_wp2_with fail
      go_ret2
      exact ⟨rfl, HX.out.2.2.2.setCell (Nat.le_refl _) _⟩

set_option maxHeartbeats 4000000 in
theorem fbp3n (n : Nat) (w : World) (h0 : 0 < n) (h1 : n < 4294967296) (hT : w.cell? ⟨3, 7, none⟩ = some (.int .u8 3)) (hT3 : 3 < w.heap.size) :
    Calls Tryd.prog 15 #[.slice none 0 0, .int .u64 (18446744073709551616 - (n : Int)), .int .i64 8, .bool true, .bool false] w fun e w' => e = .returned (.tuple #[.slice none 0 0, .string ⟨(45 :: digB 8 n).toArray⟩]) ∧ Below w.heap.size w w' := by
  have HT := Lib.hid hT
  clear hT
  have hwr : IntKind.u64.wrap (-(18446744073709551616 - (n : Int))) = (n : Int) := by rw [IntKind.wrap_u64]; omega
  go_enter Tryd.func15, Tryd.ntmps15
  go_wp2_with fail
  have HN := Buf.new w PZ44 44 65 PZ44_size
  have HB := (Below.refl w.heap.size w).alloc (Nat.le_refl _) (.cells PZ44 44)
  generalize w.alloc (.cells PZ44 44) = W at HN HB ⊢
  have HN' := Lib.hid (And.intro HN HB)
  clear HN HB
  go_wp2_with fail
  refine (pow21y3 W).mono ?_
  rintro e w1 ⟨rfl, rfl⟩
  go_wp2_with fail
  refine (tz22_3 W ((HN'.out.2.cell (p := ⟨3, 7, none⟩) hT3).trans HT.out)).mono ?_
  rintro e w1 ⟨rfl, rfl⟩
  go_wp2_with fail
  go_loopw [1, 13] (fun v1 v13 wr => ∃ (u i : Nat) (L : List UInt8), v1 = .int .u64 (u : Int) ∧ v13 = .int .i64 (i : Int) ∧ 33 ≤ i ∧ i ≤ 65 ∧ u ≤ n ∧ u < 2 ^ (i - 33) ∧ digB 8 u ++ L = digB 8 n ∧ Buf wr w.heap.size 44 65 i L ∧ Below w.heap.size w wr) (fun v1 _ _ => (intOf v1).toNat)
  case atStart => exact ⟨n, 65, [], rfl, rfl, by omega, by omega, Nat.le_refl _, h1, List.append_nil _, HN'.out.1, HN'.out.2⟩
  case round =>
    obtain ⟨u, i, L, rfl, rfl, hi, hi2, hun, hu, hL, hBf, hbe⟩ := hrel
    have HX := Lib.hid (And.intro hu (And.intro hL (And.intro hBf hbe)))
    clear hu hL hBf hbe HN'
    have hgl := HX.out.2.2.1.lt
    by_cases hlt : 8 ≤ u
    · obtain ⟨c, hc⟩ : ∃ c, u % 8 = c := ⟨_, rfl⟩
      obtain ⟨q, hq⟩ : ∃ q, u / 8 = q := ⟨_, rfl⟩
      have hand : bits BinOp.and IntKind.u64 (u : Int) 7 = (c : Int) := by
        rw [show (7 : Int) = ((7 : Nat) : Int) from rfl, bits_and_u64_nat u 7 (by omega) (by omega), ← hc, show (7 : Nat) = 2 ^ 3 - 1 from rfl, Nat.and_two_pow_sub_one_eq_mod]
      have hshr : (u : Int) / 8 = (q : Int) := by rw [← hq]; exact (Int.natCast_ediv u 8).symm
      have hcb : c < 36 := by have := Nat.mod_lt u (show 0 < 8 by omega); omega
      have hqu : q < u := by rw [← hq]; exact Nat.div_lt_self (by omega) (by omega)
      have hidx := fun W => index36 W .u64 c hcb
      unfold dig36 at hidx
      obtain ⟨i', rfl⟩ : ∃ i', i = i' + 1 := ⟨i - 1, by omega⟩
      have hi3 : 33 ≤ i' := by
        have := HX.out.1
        by_cases e : i' + 1 = 33
        · rw [e] at this; omega
        · omega
      obtain ⟨y, hy⟩ := HX.out.2.2.1.old (j := i') (by omega)
      have hf := HX.out.2.2.1.frozen i'
      have HQ := Lib.hid (And.intro hc hq)
      have hlt' : (8) ≤ (u : Int) := by omega
      clear hc hq
      go_wp2_with fail
      go_roundw
      case rel =>
        refine ⟨q, i', dgb c :: L, rfl, by go_num, by omega, by omega, by omega, ?_, ?_, HX.out.2.2.1.push _, HX.out.2.2.2.setCell (Nat.le_refl _) _⟩
        · rw [← HQ.out.2]
          exact div_pow (by omega) (by rw [show i' - 33 + 1 = i' + 1 - 33 by omega]; exact HX.out.1)
        · rw [← HQ.out.2, ← HQ.out.1, digB_step (by omega) hlt]
          exact HX.out.2.1
      case measure => simp [intOf]; omega
    · have hcb : u < 36 := by omega
      have hidx := fun W => index36 W .u64 u hcb
      unfold dig36 at hidx
      have hL0 : dgb u :: L = digB 8 n := by
        have := HX.out.2.1
        rwa [digB_small (by omega)] at this
      obtain ⟨i', rfl⟩ : ∃ i', i = i' + 1 := ⟨i - 1, by omega⟩
      obtain ⟨y, hy⟩ := HX.out.2.2.1.old (j := i') (by omega)
      have hf := HX.out.2.2.1.frozen i'
      have hB2 : Buf (wr.setCell ⟨w.heap.size, i', none⟩ (.int .u8 ((dgb u).toNat : Int))) w.heap.size 44 65 i' (dgb u :: L) := HX.out.2.2.1.push _
      have hll : L.length = 65 - (i' + 1) := by have := HX.out.2.2.1.1; omega
      have hlt' : ¬ (8) ≤ (u : Int) := by omega
      obtain ⟨i2, rfl⟩ : ∃ i2, i' = i2 + 1 := ⟨i' - 1, by omega⟩
      have hB3 : Buf ((wr.setCell ⟨w.heap.size, i2 + 1, none⟩ (.int .u8 ((dgb u).toNat : Int))).setCell ⟨w.heap.size, i2, none⟩ (.int .u8 45)) w.heap.size 44 65 i2 (45 :: dgb u :: L) := hB2.push 45
      obtain ⟨y2, hy2⟩ := HX.out.2.2.1.old (j := i2) (by omega)
      have hf2 := HX.out.2.2.1.frozen i2
      have htx := hB3.text (cap := 65 - i2)
      rw [List.length_cons, List.length_cons, hll, hL0, show 65 - (i2 + 1 + 1) + 1 + 1 = 65 - i2 by omega] at htx
      have hsl := slice44 w.heap.size i2 (by omega)
      clear hlt hL0 hll hB2 hB3
      go_wp2_with fail
      go_ret2
      exact ⟨rfl, (HX.out.2.2.2.setCell (Nat.le_refl _) _).setCell (Nat.le_refl _) _⟩

set_option maxHeartbeats 4000000 in
theorem fbp4p (n : Nat) (w : World) (h1 : n < 4294967296) (hT : w.cell? ⟨3, 15, none⟩ = some (.int .u8 4)) (hT3 : 3 < w.heap.size) :
    Calls Tryd.prog 15 #[.slice none 0 0, .int .u64 (n : Int), .int .i64 16, .bool false, .bool false] w fun e w' => e = .returned (.tuple #[.slice none 0 0, .string ⟨(digB 16 n).toArray⟩]) ∧ Below w.heap.size w w' := by
  have HT := Lib.hid hT
  clear hT
  go_enter Tryd.func15, Tryd.ntmps15
  go_wp2_with fail
  have HN := Buf.new w PZ44 44 65 PZ44_size
  have HB := (Below.refl w.heap.size w).alloc (Nat.le_refl _) (.cells PZ44 44)
  generalize w.alloc (.cells PZ44 44) = W at HN HB ⊢
  have HN' := Lib.hid (And.intro HN HB)
  clear HN HB
  go_wp2_with fail
  refine (pow21y4 W).mono ?_
  rintro e w1 ⟨rfl, rfl⟩
  go_wp2_with fail
  refine (tz22_4 W ((HN'.out.2.cell (p := ⟨3, 15, none⟩) hT3).trans HT.out)).mono ?_
  rintro e w1 ⟨rfl, rfl⟩
  go_wp2_with fail
  go_loopw [1, 13] (fun v1 v13 wr => ∃ (u i : Nat) (L : List UInt8), v1 = .int .u64 (u : Int) ∧ v13 = .int .i64 (i : Int) ∧ 33 ≤ i ∧ i ≤ 65 ∧ u ≤ n ∧ u < 2 ^ (i - 33) ∧ digB 16 u ++ L = digB 16 n ∧ Buf wr w.heap.size 44 65 i L ∧ Below w.heap.size w wr) (fun v1 _ _ => (intOf v1).toNat)
  case atStart => exact ⟨n, 65, [], rfl, rfl, by omega, by omega, Nat.le_refl _, h1, List.append_nil _, HN'.out.1, HN'.out.2⟩
  case round =>
    obtain ⟨u, i, L, rfl, rfl, hi, hi2, hun, hu, hL, hBf, hbe⟩ := hrel
    have HX := Lib.hid (And.intro hu (And.intro hL (And.intro hBf hbe)))
    clear hu hL hBf hbe HN'
    have hgl := HX.out.2.2.1.lt
    by_cases hlt : 16 ≤ u
    · obtain ⟨c, hc⟩ : ∃ c, u % 16 = c := ⟨_, rfl⟩
      obtain ⟨q, hq⟩ : ∃ q, u / 16 = q := ⟨_, rfl⟩
      have hand : bits BinOp.and IntKind.u64 (u : Int) 15 = (c : Int) := by
        rw [show (15 : Int) = ((15 : Nat) : Int) from rfl, bits_and_u64_nat u 15 (by omega) (by omega), ← hc, show (15 : Nat) = 2 ^ 4 - 1 from rfl, Nat.and_two_pow_sub_one_eq_mod]
      have hshr : (u : Int) / 16 = (q : Int) := by rw [← hq]; exact (Int.natCast_ediv u 16).symm
      have hcb : c < 36 := by have := Nat.mod_lt u (show 0 < 16 by omega); omega
      have hqu : q < u := by rw [← hq]; exact Nat.div_lt_self (by omega) (by omega)
      have hidx := fun W => index36 W .u64 c hcb
      unfold dig36 at hidx
      obtain ⟨i', rfl⟩ : ∃ i', i = i' + 1 := ⟨i - 1, by omega⟩
      have hi3 : 33 ≤ i' := by
        have := HX.out.1
        by_cases e : i' + 1 = 33
        · rw [e] at this; omega
        · omega
      obtain ⟨y, hy⟩ := HX.out.2.2.1.old (j := i') (by omega)
      have hf := HX.out.2.2.1.frozen i'
      have HQ := Lib.hid (And.intro hc hq)
      have hlt' : (16) ≤ (u : Int) := by omega
      clear hc hq
      go_wp2_with fail
      go_roundw
      case rel =>
        refine ⟨q, i', dgb c :: L, rfl, by go_num, by omega, by omega, by omega, ?_, ?_, HX.out.2.2.1.push _, HX.out.2.2.2.setCell (Nat.le_refl _) _⟩
        · rw [← HQ.out.2]
          exact div_pow (by omega) (by rw [show i' - 33 + 1 = i' + 1 - 33 by omega]; exact HX.out.1)
        · rw [← HQ.out.2, ← HQ.out.1, digB_step (by omega) hlt]
          exact HX.out.2.1
      case measure => simp [intOf]; omega
    · have hcb : u < 36 := by omega
      have hidx := fun W => index36 W .u64 u hcb
      unfold dig36 at hidx
      have hL0 : dgb u :: L = digB 16 n := by
        have := HX.out.2.1
        rwa [digB_small (by omega)] at this
      obtain ⟨i', rfl⟩ : ∃ i', i = i' + 1 := ⟨i - 1, by omega⟩
      obtain ⟨y, hy⟩ := HX.out.2.2.1.old (j := i') (by omega)
      have hf := HX.out.2.2.1.frozen i'
      have hB2 : Buf (wr.setCell ⟨w.heap.size, i', none⟩ (.int .u8 ((dgb u).toNat : Int))) w.heap.size 44 65 i' (dgb u :: L) := HX.out.2.2.1.push _
      have hll : L.length = 65 - (i' + 1) := by have := HX.out.2.2.1.1; omega
      have hlt' : ¬ (16) ≤ (u : Int) := by omega
      have htx := hB2.text (cap := 65 - i')
      rw [List.length_cons, hll, hL0, show 65 - (i' + 1) + 1 = 65 - i' by omega] at htx
      have hsl := slice44 w.heap.size i' (by omega)
      clear hlt hL0 hll hB2
      go_wp2_with fail
      go_ret2
      exact ⟨rfl, HX.out.2.2.2.setCell (Nat.le_refl _) _⟩

set_option maxHeartbeats 4000000 in
theorem fbp4n (n : Nat) (w : World) (h0 : 0 < n) (h1 : n < 4294967296) (hT : w.cell? ⟨3, 15, none⟩ = some (.int .u8 4)) (hT3 : 3 < w.heap.size) :
    Calls Tryd.prog 15 #[.slice none 0 0, .int .u64 (18446744073709551616 - (n : Int)), .int .i64 16, .bool true, .bool false] w fun e w' => e = .returned (.tuple #[.slice none 0 0, .string ⟨(45 :: digB 16 n).toArray⟩]) ∧ Below w.heap.size w w' := by
  have HT := Lib.hid hT
  clear hT
  have hwr : IntKind.u64.wrap (-(18446744073709551616 - (n : Int))) = (n : Int) := by rw [IntKind.wrap_u64]; omega
  go_enter Tryd.func15, Tryd.ntmps15
  go_wp2_with fail
  have HN := Buf.new w PZ44 44 65 PZ44_size
  have HB := (Below.refl w.heap.size w).alloc (Nat.le_refl _) (.cells PZ44 44)
  generalize w.alloc (.cells PZ44 44) = W at HN HB ⊢
  have HN' := Lib.hid (And.intro HN HB)
  clear HN HB
  go_wp2_with fail
  refine (pow21y4 W).mono ?_
  rintro e w1 ⟨rfl, rfl⟩
  go_wp2_with fail
  refine (tz22_4 W ((HN'.out.2.cell (p := ⟨3, 15, none⟩) hT3).trans HT.out)).mono ?_
  rintro e w1 ⟨rfl, rfl⟩
  go_wp2_with fail
  go_loopw [1, 13] (fun v1 v13 wr => ∃ (u i : Nat) (L : List UInt8), v1 = .int .u64 (u : Int) ∧ v13 = .int .i64 (i : Int) ∧ 33 ≤ i ∧ i ≤ 65 ∧ u ≤ n ∧ u < 2 ^ (i - 33) ∧ digB 16 u ++ L = digB 16 n ∧ Buf wr w.heap.size 44 65 i L ∧ Below w.heap.size w wr) (fun v1 _ _ => (intOf v1).toNat)
  case atStart => exact ⟨n, 65, [], rfl, rfl, by omega, by omega, Nat.le_refl _, h1, List.append_nil _, HN'.out.1, HN'.out.2⟩
  case round =>
    obtain ⟨u, i, L, rfl, rfl, hi, hi2, hun, hu, hL, hBf, hbe⟩ := hrel
    have HX := Lib.hid (And.intro hu (And.intro hL (And.intro hBf hbe)))
    clear hu hL hBf hbe HN'
    have hgl := HX.out.2.2.1.lt
    by_cases hlt : 16 ≤ u
    · obtain ⟨c, hc⟩ : ∃ c, u % 16 = c := ⟨_, rfl⟩
      obtain ⟨q, hq⟩ : ∃ q, u / 16 = q := ⟨_, rfl⟩
      have hand : bits BinOp.and IntKind.u64 (u : Int) 15 = (c : Int) := by
        rw [show (15 : Int) = ((15 : Nat) : Int) from rfl, bits_and_u64_nat u 15 (by omega) (by omega), ← hc, show (15 : Nat) = 2 ^ 4 - 1 from rfl, Nat.and_two_pow_sub_one_eq_mod]
      have hshr : (u : Int) / 16 = (q : Int) := by rw [← hq]; exact (Int.natCast_ediv u 16).symm
      have hcb : c < 36 := by have := Nat.mod_lt u (show 0 < 16 by omega); omega
      have hqu : q < u := by rw [← hq]; exact Nat.div_lt_self (by omega) (by omega)
      have hidx := fun W => index36 W .u64 c hcb
      unfold dig36 at hidx
      obtain ⟨i', rfl⟩ : ∃ i', i = i' + 1 := ⟨i - 1, by omega⟩
      have hi3 : 33 ≤ i' := by
        have := HX.out.1
        by_cases e : i' + 1 = 33
        · rw [e] at this; omega
        · omega
      obtain ⟨y, hy⟩ := HX.out.2.2.1.old (j := i') (by omega)
      have hf := HX.out.2.2.1.frozen i'
      have HQ := Lib.hid (And.intro hc hq)
      have hlt' : (16) ≤ (u : Int) := by omega
      clear hc hq
      go_wp2_with fail
      go_roundw
      case rel =>
        refine ⟨q, i', dgb c :: L, rfl, by go_num, by omega, by omega, by omega, ?_, ?_, HX.out.2.2.1.push _, HX.out.2.2.2.setCell (Nat.le_refl _) _⟩
        · rw [← HQ.out.2]
          exact div_pow (by omega) (by rw [show i' - 33 + 1 = i' + 1 - 33 by omega]; exact HX.out.1)
        · rw [← HQ.out.2, ← HQ.out.1, digB_step (by omega) hlt]
          exact HX.out.2.1
      case measure => simp [intOf]; omega
    · have hcb : u < 36 := by omega
      have hidx := fun W => index36 W .u64 u hcb
      unfold dig36 at hidx
      have hL0 : dgb u :: L = digB 16 n := by
        have := HX.out.2.1
        rwa [digB_small (by omega)] at this
      obtain ⟨i', rfl⟩ : ∃ i', i = i' + 1 := ⟨i - 1, by omega⟩
      obtain ⟨y, hy⟩ := HX.out.2.2.1.old (j := i') (by omega)
      have hf := HX.out.2.2.1.frozen i'
      have hB2 : Buf (wr.setCell ⟨w.heap.size, i', none⟩ (.int .u8 ((dgb u).toNat : Int))) w.heap.size 44 65 i' (dgb u :: L) := HX.out.2.2.1.push _
      have hll : L.length = 65 - (i' + 1) := by have := HX.out.2.2.1.1; omega
      have hlt' : ¬ (16) ≤ (u : Int) := by omega
      obtain ⟨i2, rfl⟩ : ∃ i2, i' = i2 + 1 := ⟨i' - 1, by omega⟩
      have hB3 : Buf ((wr.setCell ⟨w.heap.size, i2 + 1, none⟩ (.int .u8 ((dgb u).toNat : Int))).setCell ⟨w.heap.size, i2, none⟩ (.int .u8 45)) w.heap.size 44 65 i2 (45 :: dgb u :: L) := hB2.push 45
      obtain ⟨y2, hy2⟩ := HX.out.2.2.1.old (j := i2) (by omega)
      have hf2 := HX.out.2.2.1.frozen i2
      have htx := hB3.text (cap := 65 - i2)
      rw [List.length_cons, List.length_cons, hll, hL0, show 65 - (i2 + 1 + 1) + 1 + 1 = 65 - i2 by omega] at htx
      have hsl := slice44 w.heap.size i2 (by omega)
      clear hlt hL0 hll hB2 hB3
      go_wp2_with fail
      go_ret2
      exact ⟨rfl, (HX.out.2.2.2.setCell (Nat.le_refl _) _).setCell (Nat.le_refl _) _⟩

set_option maxHeartbeats 4000000 in
theorem fbp5p (n : Nat) (w : World) (h1 : n < 4294967296) (hT : w.cell? ⟨3, 31, none⟩ = some (.int .u8 5)) (hT3 : 3 < w.heap.size) :
    Calls Tryd.prog 15 #[.slice none 0 0, .int .u64 (n : Int), .int .i64 32, .bool false, .bool false] w fun e w' => e = .returned (.tuple #[.slice none 0 0, .string ⟨(digB 32 n).toArray⟩]) ∧ Below w.heap.size w w' := by
  have HT := Lib.hid hT
  clear hT
  go_enter Tryd.func15, Tryd.ntmps15
  go_wp2_with fail
  have HN := Buf.new w PZ44 44 65 PZ44_size
  have HB := (Below.refl w.heap.size w).alloc (Nat.le_refl _) (.cells PZ44 44)
  generalize w.alloc (.cells PZ44 44) = W at HN HB ⊢
  have HN' := Lib.hid (And.intro HN HB)
  clear HN HB
  go_wp2_with fail
  refine (pow21y5 W).mono ?_
  rintro e w1 ⟨rfl, rfl⟩
  go_wp2_with fail
  refine (tz22_5 W ((HN'.out.2.cell (p := ⟨3, 31, none⟩) hT3).trans HT.out)).mono ?_
  rintro e w1 ⟨rfl, rfl⟩
  go_wp2_with fail
  go_loopw [1, 13] (fun v1 v13 wr => ∃ (u i : Nat) (L : List UInt8), v1 = .int .u64 (u : Int) ∧ v13 = .int .i64 (i : Int) ∧ 33 ≤ i ∧ i ≤ 65 ∧ u ≤ n ∧ u < 2 ^ (i - 33) ∧ digB 32 u ++ L = digB 32 n ∧ Buf wr w.heap.size 44 65 i L ∧ Below w.heap.size w wr) (fun v1 _ _ => (intOf v1).toNat)
  case atStart => exact ⟨n, 65, [], rfl, rfl, by omega, by omega, Nat.le_refl _, h1, List.append_nil _, HN'.out.1, HN'.out.2⟩
  case round =>
    obtain ⟨u, i, L, rfl, rfl, hi, hi2, hun, hu, hL, hBf, hbe⟩ := hrel
    have HX := Lib.hid (And.intro hu (And.intro hL (And.intro hBf hbe)))
    clear hu hL hBf hbe HN'
    have hgl := HX.out.2.2.1.lt
    by_cases hlt : 32 ≤ u
    · obtain ⟨c, hc⟩ : ∃ c, u % 32 = c := ⟨_, rfl⟩
      obtain ⟨q, hq⟩ : ∃ q, u / 32 = q := ⟨_, rfl⟩
      have hand : bits BinOp.and IntKind.u64 (u : Int) 31 = (c : Int) := by
        rw [show (31 : Int) = ((31 : Nat) : Int) from rfl, bits_and_u64_nat u 31 (by omega) (by omega), ← hc, show (31 : Nat) = 2 ^ 5 - 1 from rfl, Nat.and_two_pow_sub_one_eq_mod]
      have hshr : (u : Int) / 32 = (q : Int) := by rw [← hq]; exact (Int.natCast_ediv u 32).symm
      have hcb : c < 36 := by have := Nat.mod_lt u (show 0 < 32 by omega); omega
      have hqu : q < u := by rw [← hq]; exact Nat.div_lt_self (by omega) (by omega)
      have hidx := fun W => index36 W .u64 c hcb
      unfold dig36 at hidx
      obtain ⟨i', rfl⟩ : ∃ i', i = i' + 1 := ⟨i - 1, by omega⟩
      have hi3 : 33 ≤ i' := by
        have := HX.out.1
        by_cases e : i' + 1 = 33
        · rw [e] at this; omega
        · omega
      obtain ⟨y, hy⟩ := HX.out.2.2.1.old (j := i') (by omega)
      have hf := HX.out.2.2.1.frozen i'
      have HQ := Lib.hid (And.intro hc hq)
      have hlt' : (32) ≤ (u : Int) := by omega
      clear hc hq
      go_wp2_with fail
      go_roundw
      case rel =>
        refine ⟨q, i', dgb c :: L, rfl, by go_num, by omega, by omega, by omega, ?_, ?_, HX.out.2.2.1.push _, HX.out.2.2.2.setCell (Nat.le_refl _) _⟩
        · rw [← HQ.out.2]
          exact div_pow (by omega) (by rw [show i' - 33 + 1 = i' + 1 - 33 by omega]; exact HX.out.1)
        · rw [← HQ.out.2, ← HQ.out.1, digB_step (by omega) hlt]
          exact HX.out.2.1
      case measure => simp [intOf]; omega
    · have hcb : u < 36 := by omega
      have hidx := fun W => index36 W .u64 u hcb
      unfold dig36 at hidx
      have hL0 : dgb u :: L = digB 32 n := by
        have := HX.out.2.1
        rwa [digB_small (by omega)] at this
      obtain ⟨i', rfl⟩ : ∃ i', i = i' + 1 := ⟨i - 1, by omega⟩
      obtain ⟨y, hy⟩ := HX.out.2.2.1.old (j := i') (by omega)
      have hf := HX.out.2.2.1.frozen i'
      have hB2 : Buf (wr.setCell ⟨w.heap.size, i', none⟩ (.int .u8 ((dgb u).toNat : Int))) w.heap.size 44 65 i' (dgb u :: L) := HX.out.2.2.1.push _
      have hll : L.length = 65 - (i' + 1) := by have := HX.out.2.2.1.1; omega
      have hlt' : ¬ (32) ≤ (u : Int) := by omega
      have htx := hB2.text (cap := 65 - i')
      rw [List.length_cons, hll, hL0, show 65 - (i' + 1) + 1 = 65 - i' by omega] at htx
      have hsl := slice44 w.heap.size i' (by omega)
      clear hlt hL0 hll hB2
      go_wp2_with fail
      go_ret2
      exact ⟨rfl, HX.out.2.2.2.setCell (Nat.le_refl _) _⟩

set_option maxHeartbeats 4000000 in
theorem fbp5n (n : Nat) (w : World) (h0 : 0 < n) (h1 : n < 4294967296) (hT : w.cell? ⟨3, 31, none⟩ = some (.int .u8 5)) (hT3 : 3 < w.heap.size) :
    Calls Tryd.prog 15 #[.slice none 0 0, .int .u64 (18446744073709551616 - (n : Int)), .int .i64 32, .bool true, .bool false] w fun e w' => e = .returned (.tuple #[.slice none 0 0, .string ⟨(45 :: digB 32 n).toArray⟩]) ∧ Below w.heap.size w w' := by
  have HT := Lib.hid hT
  clear hT
  have hwr : IntKind.u64.wrap (-(18446744073709551616 - (n : Int))) = (n : Int) := by rw [IntKind.wrap_u64]; omega
  go_enter Tryd.func15, Tryd.ntmps15
  go_wp2_with fail
  have HN := Buf.new w PZ44 44 65 PZ44_size
  have HB := (Below.refl w.heap.size w).alloc (Nat.le_refl _) (.cells PZ44 44)
  generalize w.alloc (.cells PZ44 44) = W at HN HB ⊢
  have HN' := Lib.hid (And.intro HN HB)
  clear HN HB
  go_wp2_with fail
  refine (pow21y5 W).mono ?_
  rintro e w1 ⟨rfl, rfl⟩
  go_wp2_with fail
  refine (tz22_5 W ((HN'.out.2.cell (p := ⟨3, 31, none⟩) hT3).trans HT.out)).mono ?_
  rintro e w1 ⟨rfl, rfl⟩
  go_wp2_with fail
  go_loopw [1, 13] (fun v1 v13 wr => ∃ (u i : Nat) (L : List UInt8), v1 = .int .u64 (u : Int) ∧ v13 = .int .i64 (i : Int) ∧ 33 ≤ i ∧ i ≤ 65 ∧ u ≤ n ∧ u < 2 ^ (i - 33) ∧ digB 32 u ++ L = digB 32 n ∧ Buf wr w.heap.size 44 65 i L ∧ Below w.heap.size w wr) (fun v1 _ _ => (intOf v1).toNat)
  case atStart => exact ⟨n, 65, [], rfl, rfl, by omega, by omega, Nat.le_refl _, h1, List.append_nil _, HN'.out.1, HN'.out.2⟩
  case round =>
    obtain ⟨u, i, L, rfl, rfl, hi, hi2, hun, hu, hL, hBf, hbe⟩ := hrel
    have HX := Lib.hid (And.intro hu (And.intro hL (And.intro hBf hbe)))
    clear hu hL hBf hbe HN'
    have hgl := HX.out.2.2.1.lt
    by_cases hlt : 32 ≤ u
    · obtain ⟨c, hc⟩ : ∃ c, u % 32 = c := ⟨_, rfl⟩
      obtain ⟨q, hq⟩ : ∃ q, u / 32 = q := ⟨_, rfl⟩
      have hand : bits BinOp.and IntKind.u64 (u : Int) 31 = (c : Int) := by
        rw [show (31 : Int) = ((31 : Nat) : Int) from rfl, bits_and_u64_nat u 31 (by omega) (by omega), ← hc, show (31 : Nat) = 2 ^ 5 - 1 from rfl, Nat.and_two_pow_sub_one_eq_mod]
      have hshr : (u : Int) / 32 = (q : Int) := by rw [← hq]; exact (Int.natCast_ediv u 32).symm
      have hcb : c < 36 := by have := Nat.mod_lt u (show 0 < 32 by omega); omega
      have hqu : q < u := by rw [← hq]; exact Nat.div_lt_self (by omega) (by omega)
      have hidx := fun W => index36 W .u64 c hcb
      unfold dig36 at hidx
      obtain ⟨i', rfl⟩ : ∃ i', i = i' + 1 := ⟨i - 1, by omega⟩
      have hi3 : 33 ≤ i' := by
        have := HX.out.1
        by_cases e : i' + 1 = 33
        · rw [e] at this; omega
        · omega
      obtain ⟨y, hy⟩ := HX.out.2.2.1.old (j := i') (by omega)
      have hf := HX.out.2.2.1.frozen i'
      have HQ := Lib.hid (And.intro hc hq)
      have hlt' : (32) ≤ (u : Int) := by omega
      clear hc hq
      go_wp2_with fail
      go_roundw
      case rel =>
        refine ⟨q, i', dgb c :: L, rfl, by go_num, by omega, by omega, by omega, ?_, ?_, HX.out.2.2.1.push _, HX.out.2.2.2.setCell (Nat.le_refl _) _⟩
        · rw [← HQ.out.2]
          exact div_pow (by omega) (by rw [show i' - 33 + 1 = i' + 1 - 33 by omega]; exact HX.out.1)
        · rw [← HQ.out.2, ← HQ.out.1, digB_step (by omega) hlt]
          exact HX.out.2.1
      case measure => simp [intOf]; omega
    · have hcb : u < 36 := by omega
      have hidx := fun W => index36 W .u64 u hcb
      unfold dig36 at hidx
      have hL0 : dgb u :: L = digB 32 n := by
        have := HX.out.2.1
        rwa [digB_small (by omega)] at this
      obtain ⟨i', rfl⟩ : ∃ i', i = i' + 1 := ⟨i - 1, by omega⟩
      obtain ⟨y, hy⟩ := HX.out.2.2.1.old (j := i') (by omega)
      have hf := HX.out.2.2.1.frozen i'
      have hB2 : Buf (wr.setCell ⟨w.heap.size, i', none⟩ (.int .u8 ((dgb u).toNat : Int))) w.heap.size 44 65 i' (dgb u :: L) := HX.out.2.2.1.push _
      have hll : L.length = 65 - (i' + 1) := by have := HX.out.2.2.1.1; omega
      have hlt' : ¬ (32) ≤ (u : Int) := by omega
      obtain ⟨i2, rfl⟩ : ∃ i2, i' = i2 + 1 := ⟨i' - 1, by omega⟩
      have hB3 : Buf ((wr.setCell ⟨w.heap.size, i2 + 1, none⟩ (.int .u8 ((dgb u).toNat : Int))).setCell ⟨w.heap.size, i2, none⟩ (.int .u8 45)) w.heap.size 44 65 i2 (45 :: dgb u :: L) := hB2.push 45
      obtain ⟨y2, hy2⟩ := HX.out.2.2.1.old (j := i2) (by omega)
      have hf2 := HX.out.2.2.1.frozen i2
      have htx := hB3.text (cap := 65 - i2)
      rw [List.length_cons, List.length_cons, hll, hL0, show 65 - (i2 + 1 + 1) + 1 + 1 = 65 - i2 by omega] at htx
      have hsl := slice44 w.heap.size i2 (by omega)
      clear hlt hL0 hll hB2 hB3
      go_wp2_with fail
      go_ret2
      exact ⟨rfl, (HX.out.2.2.2.setCell (Nat.le_refl _) _).setCell (Nat.le_refl _) _⟩


end Go.Proofs.YthmfjhadkmeldaaDoor
