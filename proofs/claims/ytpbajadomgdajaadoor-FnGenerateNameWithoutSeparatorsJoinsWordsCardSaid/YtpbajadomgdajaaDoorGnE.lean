import Derived.Test.YtpbajadomgdajaaDoorKit
import Derived.Test.YtpbajadomgdajaaDoorGnC
import Derived.Shelf.Strings.LastIndex
namespace Go.Proofs.YtpbajadomgdajaaDoor
open Go.ChangeShapes Go.WideShapes Go.ChangeAt Go.RowKit
set_option linter.unusedVariables false
set_option maxRecDepth 100000
set_option maxHeartbeats 2000000

open Go.Shelf
theorem lib14 (s : ByteArray) (hn : NoSep s) (hs : s.size ≤ 1048576) (w : World) : Calls Tryd.prog 14 #[.string s, .int .u8 46] w fun e w' => e = .returned (.int .i64 (-1)) ∧ w' = w := by
  refine (Any.strings_LastIndexByte (ρ := lays149_ren) lays149 s 46 (by omega) w).mono ?_
  rintro e w1 ⟨rfl, rfl⟩
  refine ⟨?_, rfl⟩
  rcases Lib.lastIndexByte_spec s 46 with ⟨h, _⟩ | ⟨i, h1, h2, h3, h4⟩
  · rw [h]
  · exfalso
    have h5 := hn i h1
    simp [isS] at h5
    have e : s.data[i]! = s[i]'h1 := by rw [getElem!_pos s.data i h1]; rfl
    rw [e] at h3
    omega
def Base (s : ByteArray) (W : World) (e : Ending) (W' : World) : Prop := e = .returned (.tuple #[.string ⟨#[]⟩, .string s, .string ⟨#[]⟩]) ∧ Below W.heap.size W W'
theorem base9_zero (s : ByteArray) (hn : NoSep s) (hs : s.size ≤ 1048576) (h : s.size = 0) (B : Nat) (W : World) (hB : B ≤ W.heap.size) (hT : TB B W) : Calls Tryd.prog 9 #[.string s] W (Base s W) := by
  have g1 : ¬ (0 : Int) < (s.size : Int) := by omega
  have g2 : ¬ (2 : Int) < (s.size : Int) := by omega
  have hlia := lia13 s hn hs B
  have HN := Lib.hid hn
  clear hn
  go_enter Tryd.func9, Tryd.ntmps9
  go_wp2_with fail
  go_loopw [0, 2] (fun v0 v2 wr => v0 = .string s ∧ v2 = .string ⟨#[]⟩ ∧ wr = W) (fun _ _ _ => 0)
  case atStart => exact ⟨rfl, rfl, rfl⟩
  case round =>
    obtain ⟨rfl, rfl, rfl⟩ := hrel
    go_wp2_with fail
    refine (hlia _ hB hT).mono ?_
    rintro e w1 ⟨rfl, hw⟩
    go_wp2_with fail
    refine (lib14 s HN.out hs _).mono ?_
    rintro e w2 ⟨rfl, rfl⟩
    go_wp2_with fail
    refine bodyPost_ret (v := .tuple #[.string ⟨#[]⟩, .string s, .string ⟨#[]⟩]) (by simp [results, Tryd.results9, go_sem]) rfl ⟨rfl, hw⟩
theorem base9_few (s : ByteArray) (hn : NoSep s) (hs : s.size ≤ 1048576) (h : 0 < s.size) (h2 : s.size ≤ 2) (B : Nat) (W : World) (hB : B ≤ W.heap.size) (hT : TB B W) : Calls Tryd.prog 9 #[.string s] W (Base s W) := by
  have g1 : (0 : Int) < (s.size : Int) := by omega
  have g2 : ¬ (2 : Int) < (s.size : Int) := by omega
  have x0 : ∀ W : World, (Instr.index 9 (.string s) (.int .i64 0)).run Tryd.prog W = .ok (.int .u8 (((s[0]'(by omega)).toNat : Nat) : Int)) W := index_at s 0 (by omega)
  have b0 := hn 0 (by omega)
  obtain ⟨c0, e0⟩ : ∃ c : Nat, c = (s[0]'(by omega)).toNat := ⟨_, rfl⟩
  rw [← e0] at x0 b0
  have p0 : ((c0 : Int) == 47) = false := beq_false_of_ne (by simp [isS] at b0; omega)
  have q0 : ((c0 : Int) == 92) = false := beq_false_of_ne (by simp [isS] at b0; omega)
  clear b0 e0
  have hlia := lia13 s hn hs B
  have HN := Lib.hid hn
  clear hn
  go_enter Tryd.func9, Tryd.ntmps9
  go_wp2_with fail
  go_loopw [0, 2] (fun v0 v2 wr => v0 = .string s ∧ v2 = .string ⟨#[]⟩ ∧ wr = W) (fun _ _ _ => 0)
  case atStart => exact ⟨rfl, rfl, rfl⟩
  case round =>
    obtain ⟨rfl, rfl, rfl⟩ := hrel
    go_wp2_with fail
    refine (hlia _ hB hT).mono ?_
    rintro e w1 ⟨rfl, hw⟩
    go_wp2_with fail
    refine (lib14 s HN.out hs _).mono ?_
    rintro e w2 ⟨rfl, rfl⟩
    go_wp2_with fail
    refine bodyPost_ret (v := .tuple #[.string ⟨#[]⟩, .string s, .string ⟨#[]⟩]) (by simp [results, Tryd.results9, go_sem]) rfl ⟨rfl, hw⟩
theorem base9_colon (s : ByteArray) (hn : NoSep s) (hs : s.size ≤ 1048576) (h : 2 < s.size) (h2 : (s[1]'(by omega)).toNat = 58) (B : Nat) (W : World) (hB : B ≤ W.heap.size) (hT : TB B W) : Calls Tryd.prog 9 #[.string s] W (Base s W) := by
  have g1 : (0 : Int) < (s.size : Int) := by omega
  have g2 : (2 : Int) < (s.size : Int) := by omega
  have x0 : ∀ W : World, (Instr.index 9 (.string s) (.int .i64 0)).run Tryd.prog W = .ok (.int .u8 (((s[0]'(by omega)).toNat : Nat) : Int)) W := index_at s 0 (by omega)
  have b0 := hn 0 (by omega)
  obtain ⟨c0, e0⟩ : ∃ c : Nat, c = (s[0]'(by omega)).toNat := ⟨_, rfl⟩
  rw [← e0] at x0 b0
  have p0 : ((c0 : Int) == 47) = false := beq_false_of_ne (by simp [isS] at b0; omega)
  have q0 : ((c0 : Int) == 92) = false := beq_false_of_ne (by simp [isS] at b0; omega)
  clear b0 e0
  have x1 : ∀ W : World, (Instr.index 9 (.string s) (.int .i64 1)).run Tryd.prog W = .ok (.int .u8 (((s[1]'(by omega)).toNat : Nat) : Int)) W := index_at s 1 (by omega)
  have b1 := hn 1 (by omega)
  obtain ⟨c1, e1⟩ : ∃ c : Nat, c = (s[1]'(by omega)).toNat := ⟨_, rfl⟩
  rw [← e1] at x1 b1
  have p1 : ((c1 : Int) == 58) = true := by rw [e1, h2]; rfl
  clear b1 e1
  have x2 : ∀ W : World, (Instr.index 9 (.string s) (.int .i64 2)).run Tryd.prog W = .ok (.int .u8 (((s[2]'(by omega)).toNat : Nat) : Int)) W := index_at s 2 (by omega)
  have b2 := hn 2 (by omega)
  obtain ⟨c2, e2⟩ : ∃ c : Nat, c = (s[2]'(by omega)).toNat := ⟨_, rfl⟩
  rw [← e2] at x2 b2
  have p2 : ((c2 : Int) == 47) = false := beq_false_of_ne (by simp [isS] at b2; omega)
  have q2 : ((c2 : Int) == 92) = false := beq_false_of_ne (by simp [isS] at b2; omega)
  clear b2 e2
  have hlia := lia13 s hn hs B
  have HN := Lib.hid hn
  clear hn
  go_enter Tryd.func9, Tryd.ntmps9
  go_wp2_with fail
  go_loopw [0, 2] (fun v0 v2 wr => v0 = .string s ∧ v2 = .string ⟨#[]⟩ ∧ wr = W) (fun _ _ _ => 0)
  case atStart => exact ⟨rfl, rfl, rfl⟩
  case round =>
    obtain ⟨rfl, rfl, rfl⟩ := hrel
    go_wp2_with fail
    refine (hlia _ hB hT).mono ?_
    rintro e w1 ⟨rfl, hw⟩
    go_wp2_with fail
    refine (lib14 s HN.out hs _).mono ?_
    rintro e w2 ⟨rfl, rfl⟩
    go_wp2_with fail
    refine bodyPost_ret (v := .tuple #[.string ⟨#[]⟩, .string s, .string ⟨#[]⟩]) (by simp [results, Tryd.results9, go_sem]) rfl ⟨rfl, hw⟩
theorem base9_plain (s : ByteArray) (hn : NoSep s) (hs : s.size ≤ 1048576) (h : 2 < s.size) (h2 : (s[1]'(by omega)).toNat ≠ 58) (B : Nat) (W : World) (hB : B ≤ W.heap.size) (hT : TB B W) : Calls Tryd.prog 9 #[.string s] W (Base s W) := by
  have g1 : (0 : Int) < (s.size : Int) := by omega
  have g2 : (2 : Int) < (s.size : Int) := by omega
  have x0 : ∀ W : World, (Instr.index 9 (.string s) (.int .i64 0)).run Tryd.prog W = .ok (.int .u8 (((s[0]'(by omega)).toNat : Nat) : Int)) W := index_at s 0 (by omega)
  have b0 := hn 0 (by omega)
  obtain ⟨c0, e0⟩ : ∃ c : Nat, c = (s[0]'(by omega)).toNat := ⟨_, rfl⟩
  rw [← e0] at x0 b0
  have p0 : ((c0 : Int) == 47) = false := beq_false_of_ne (by simp [isS] at b0; omega)
  have q0 : ((c0 : Int) == 92) = false := beq_false_of_ne (by simp [isS] at b0; omega)
  clear b0 e0
  have x1 : ∀ W : World, (Instr.index 9 (.string s) (.int .i64 1)).run Tryd.prog W = .ok (.int .u8 (((s[1]'(by omega)).toNat : Nat) : Int)) W := index_at s 1 (by omega)
  have b1 := hn 1 (by omega)
  obtain ⟨c1, e1⟩ : ∃ c : Nat, c = (s[1]'(by omega)).toNat := ⟨_, rfl⟩
  rw [← e1] at x1 b1
  have p1 : ((c1 : Int) == 58) = false := beq_false_of_ne (by rw [e1]; omega)
  clear b1 e1
  have hlia := lia13 s hn hs B
  have HN := Lib.hid hn
  clear hn
  go_enter Tryd.func9, Tryd.ntmps9
  go_wp2_with fail
  go_loopw [0, 2] (fun v0 v2 wr => v0 = .string s ∧ v2 = .string ⟨#[]⟩ ∧ wr = W) (fun _ _ _ => 0)
  case atStart => exact ⟨rfl, rfl, rfl⟩
  case round =>
    obtain ⟨rfl, rfl, rfl⟩ := hrel
    go_wp2_with fail
    refine (hlia _ hB hT).mono ?_
    rintro e w1 ⟨rfl, hw⟩
    go_wp2_with fail
    refine (lib14 s HN.out hs _).mono ?_
    rintro e w2 ⟨rfl, rfl⟩
    go_wp2_with fail
    refine bodyPost_ret (v := .tuple #[.string ⟨#[]⟩, .string s, .string ⟨#[]⟩]) (by simp [results, Tryd.results9, go_sem]) rfl ⟨rfl, hw⟩
theorem base9 (s : ByteArray) (hn : NoSep s) (hs : s.size ≤ 1048576) (B : Nat) (W : World) (hB : B ≤ W.heap.size) (hT : TB B W) : Calls Tryd.prog 9 #[.string s] W (Base s W) := by
  by_cases h : s.size = 0
  · exact base9_zero s hn hs h B W hB hT
  by_cases h2 : s.size ≤ 2
  · exact base9_few s hn hs (by omega) h2 B W hB hT
  by_cases h3 : (s[1]'(by omega)).toNat = 58
  · exact base9_colon s hn hs (by omega) h3 B W hB hT
  · exact base9_plain s hn hs (by omega) h3 B W hB hT

end Go.Proofs.YtpbajadomgdajaaDoor
