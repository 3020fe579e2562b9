import Derived.Test.YtdikaidllmhbhaaKit
import Derived.Test.YtdikaidllmhbhaaSkA
import Derived.Test.YtdikaidllmhbhaaSkP
import Derived.Sort.Walk0
namespace Go.Proofs.Ytdikaidllmhbhaa.fnSortedKeysOfMapIsTheSortedKeySet
open Go.ChangeShapes Go.WideShapes Go.ChangeAt Go.RowKit
set_option linter.unusedVariables false
set_option maxRecDepth 100000
set_option maxHeartbeats 2000000

def Sb (G : List (List UInt8)) (i : Nat) : ByteArray := ⟨(Gt G i).toArray⟩
theorem Sb_list (G : List (List UInt8)) (i : Nat) : (Sb G i).data.toList = Gt G i := rfl
theorem Sb_eq {G : List (List UInt8)} {i : Nat} {k : ByteArray} (h : Gt G i = k.data.toList) : Sb G i = k := by
  unfold Sb
  rw [h]

/-- The search finds what is there. -/
theorem has8 (G : List (List UInt8)) (g c t : Nat) (k : ByteArray) (w : World) (hG : G.Pairwise (· < ·)) (hl : G.length ≤ 1048576) (ht : t < G.length) (hk : Gt G t = k.data.toList)
    (hcell : ∀ i, i < G.length → w.cell? ⟨g, i, none⟩ = some (.string (Sb G i))) :
    Calls Try.prog 8 #[.slice (some ⟨g, 0, none⟩) G.length c, .string k] w fun e w' => e = .returned (.bool true) ∧ w = w' := by
  have HC := Lib.hid hcell
  have HK : Hid (∀ i, i < G.length → Op.bytesLess (Sb G i).toList k.toList = decide (i < t)) := fun i hi => by
    rw [bytesLess_eq, ByteArray.toList_eq, ByteArray.toList_eq, Sb_list, ← hk]
    exact decide_eq_decide.2 (Gt_iff hG hi ht)
  have HE : Hid (Sb G t = k) := Sb_eq hk
  obtain ⟨n, hn⟩ : ∃ n, G.length = n := ⟨_, rfl⟩
  rw [hn] at HC HK hl ht
  rw [hn]
  clear hcell hk hn hG
  go_enter Try.func8, Try.ntmps8
  go_wp2_with fail
  go_loop [5, 6, 7] (fun v5 v6 v7 => ∃ lo hi : Nat, lo ≤ t ∧ t ≤ hi ∧ hi ≤ n ∧ v5 = .int .i64 lo ∧ v6 = .int .i64 hi) (fun v5 v6 v7 => (intOf v6).toNat - (intOf v5).toNat)
  case atStart => exact ⟨0, n, Nat.zero_le _, by omega, Nat.le_refl _, rfl, by go_num⟩
  case round =>
    obtain ⟨lo, hi, h1, h2, h3, rfl, rfl⟩ := hrel
    by_cases hlt : lo < hi
    · obtain ⟨m, hm⟩ : ∃ m, lo + (hi - lo) / 2 = m := ⟨_, rfl⟩
      have hm1 : lo ≤ m := by omega
      have hm2 : m < hi := by omega
      have e1 : (lo : Int) + ((hi : Int) - lo).tdiv 2 = (m : Int) := by
        rw [Int.tdiv_eq_ediv_of_nonneg (by omega)]
        omega
      have hc := HC.out m (by omega)
      have hd := HK.out m (by omega)
      clear hm
      by_cases hmt : m < t
      · rw [decide_eq_true hmt] at hd
        go_wp2_with fail
        go_round
        case rel => exact ⟨m + 1, hi, by omega, by omega, by omega, by go_num, rfl⟩
        case measure => simp [intOf]; omega
      · rw [decide_eq_false hmt] at hd
        go_wp2_with fail
        go_round
        case rel => exact ⟨lo, m, by omega, by omega, by omega, rfl, rfl⟩
        case measure => simp [intOf]; omega
    · obtain rfl : lo = t := by omega
      have hc := HC.out lo (by omega)
      rw [HE.out] at hc
      go_wp2_with fail
      go_ret
      exact ⟨rfl, rfl⟩

end Go.Proofs.Ytdikaidllmhbhaa.fnSortedKeysOfMapIsTheSortedKeySet
