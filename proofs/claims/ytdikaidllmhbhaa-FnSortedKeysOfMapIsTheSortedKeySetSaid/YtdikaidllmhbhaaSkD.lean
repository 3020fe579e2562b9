import Derived.Test.YtdikaidllmhbhaaKit
import Derived.Test.YtdikaidllmhbhaaSkB
namespace Go.Proofs.Ytdikaidllmhbhaa.fnSortedKeysOfMapIsTheSortedKeySet
open Go.ChangeShapes Go.WideShapes Go.ChangeAt Go.RowKit Go.Maps Go.Sort
set_option linter.unusedVariables false
set_option maxRecDepth 100000
set_option maxHeartbeats 2000000

theorem mk26 (k : Int) (W : World) : (Instr.makeMap 26 (some (.int .i64 k))).run Try.prog W = .ok (.map (some W.heap.size)) (W.alloc (.map #[] 0)) := by
  simp [Instr.makeMap, run_underlying Try.underlying26, asInt, asIntOf, Result.andThen]

/-- The map behind k rounds. -/
def Ks (S : Nat → ByteArray) (k : Nat) : List Lit := (List.range k).map fun i => Lit.string (S i).data.toList
def Dk (S : Nat → ByteArray) (k : Nat) : DataW Unit := setOf (.agg []) (Ks S k)
theorem Ks_succ (S : Nat → ByteArray) (k : Nat) : Ks S (k + 1) = Ks S k ++ [.string (S k).data.toList] := by
  unfold Ks
  rw [List.range_succ, List.map_append]
  rfl
theorem Dk_succ (S : Nat → ByteArray) (k : Nat) : (Dk S k).put (.string (S k).data.toList) (.agg []) = Dk S (k + 1) := by
  unfold Dk
  rw [Ks_succ, setOf_snoc]
theorem Ks_key (S : Nat → ByteArray) (k : Nat) : ∀ x ∈ Ks S k, WideAt.IsKeyLit x := fun x hx => by
  obtain ⟨i, _, rfl⟩ := List.mem_map.1 hx
  trivial
theorem Dk_tidy (S : Nat → ByteArray) (k : Nat) : Tidy (Dk S k) := tidy_setOf _ _ (Ks_key S k)
theorem Dk_has (S : Nat → ByteArray) {i k : Nat} (h : i < k) : Maps.has (Dk S k) (.string (S i).data.toList) = true := by
  unfold Dk
  rw [has_setOf _ _ _ (Ks_key S k), List.any_eq_true]
  exact ⟨_, List.mem_map.2 ⟨i, List.mem_range.2 h, rfl⟩, by simp [Lit.sameKey]⟩
theorem Dk_size (S : Nat → ByteArray) : ∀ k, Maps.size (Dk S k) ≤ k
  | 0 => Nat.le_refl _
  | k + 1 => by
    rw [← Dk_succ, size_put (Dk_tidy S k)]
    have := Dk_size S k
    split <;> omega
theorem size_keys {D : DataW Unit} (h : IsMap D) : Maps.size D = (strKeys D).length := by
  obtain ⟨es, rfl⟩ := h
  show es.length = (es.map _).length
  rw [List.length_map]
theorem mem_keys {D : DataW Unit} {x : List UInt8} (h : Maps.has D (.string x) = true) : x ∈ strKeys D := by
  cases D with
  | map es =>
    rw [has_eq, List.any_eq_true] at h
    obtain ⟨p, hp, hs⟩ := h
    refine List.mem_map.2 ⟨p, hp, ?_⟩
    rw [WideAt.sameKey_eq hs]
    rfl
  | _ => cases h

theorem keys7 (b n : Nat) (hsort : SortS) (D0 : DataW Unit) (w : World) (hown : w.ownsMap Try.prog 9 anyE b n D0) (hmax : Maps.size D0 ≤ 65536) :
    Calls Try.prog 7 #[.map (some b)] w (Got9 D0 w) := by
  have H := Lib.hid (keys9 b n hsort D0 w hown hmax)
  clear hown hmax hsort
  go_enter Try.func7, Try.ntmps7
  go_wp2_with fail
  refine H.out.mono ?_
  clear H
  rintro e w' ⟨g, cap, ss, rfl, h1, h2, h3, h4⟩
  go_wp2_with fail
  go_ret
  exact ⟨g, cap, ss, rfl, h1, h2, h3, h4⟩

set_option maxHeartbeats 4000000 in
theorem main3 (hsort : SortS) (a0 : Option Addr) (len0 cap0 : Nat) (z0 : Nat → ByteArray) (w : World) (w0 : IsStrs w a0 len0 cap0 z0) :
    Calls Try.prog 3 #[.slice a0 len0 cap0] w fun e w' => e = .returned (.bool true) ∧ Below w.heap.size w w' := by
  obtain ⟨hs, hnil, hl, hz⟩ := strs w0
  have H0 := Lib.hid (zz4 a0 len0 cap0 z0 w hl hs hz)
  have HS := Lib.hid hs
  have HN := Lib.hid hnil
  have HSORT := Lib.hid hsort
  clear hs hnil hz w0 hsort
  go_enter Try.func3, Try.ntmps3
  go_wp2_with fail
  refine H0.out.mono ?_
  clear H0
  rintro e u ⟨q, rfl, hq, rfl⟩
  cases q
  · clear hq
    go_wp2_with fail
    go_ret
    exact ⟨rfl, Below.refl _ _⟩
  obtain ⟨hn, hsz⟩ := hq rfl
  have HSZ := Lib.hid hsz
  clear hq hsz
  by_cases h1 : 65536 < len0
  · go_wp2_with fail
    go_ret
    exact ⟨rfl, Below.refl _ _⟩
  have H5 := Lib.hid (sb5 a0 len0 cap0 z0 w (by omega) HS.out HSZ.out)
  have H6 := Lib.hid (cl6 a0 len0 cap0 z0 w hn HN.out HS.out)
  clear HS HN
  go_wp2_with fail
  refine H5.out.mono ?_
  clear H5
  rintro e u ⟨t, rfl, ht, rfl⟩
  by_cases h2 : 1048576 < t
  · go_wp2_with fail
    go_ret
    exact ⟨rfl, Below.refl _ _⟩
  go_wp2_with fail
  refine H6.out.mono ?_
  clear H6
  rintro e w1 ⟨b, rfl, hS, hb⟩
  have hmk := fun W => mk26 len0 W
  have HS := Lib.hid hS
  have HB := Lib.hid hb
  clear hS hb
  go_wp2_with fail
  clear hmk
  have hown0 : (w1.alloc (.map #[] 0)).ownsMap Try.prog 9 anyE w1.heap.size 0 (Dk z0 0) := World.ownsMap_made w1 Try.prog 9 anyE
  have hb0 : Below w1.heap.size w1 (w1.alloc (.map #[] 0)) := (Below.refl _ _).alloc (Nat.le_refl _) _
  go_loopw [4] (fun v4 wr => ∃ k : Nat, k ≤ len0 ∧ v4 = .int .i64 k ∧ wr.ownsMap Try.prog 9 anyE w1.heap.size k (Dk z0 k) ∧ Below w1.heap.size w1 wr) (fun v4 _ => len0 - (intOf v4).toNat)
  case atStart => exact ⟨0, Nat.zero_le _, rfl, hown0, hb0⟩
  case round =>
    clear hown0 hb0
    obtain ⟨k, hk, rfl, hown, hbr⟩ := hrel
    have HO := Lib.hid hown
    have HR := Lib.hid hbr
    clear hown hbr
    by_cases hlt : k < len0
    · obtain ⟨x, rfl, hc0⟩ := HS.out k hlt
      have hc := later hc0 HR.out
      have hsk := HSZ.out k hlt
      have hput : Hid ((Dk z0 k).put (.string (z0 k).data.toList) (.agg []) = Dk z0 (k + 1)) := Dk_succ z0 k
      obtain ⟨s, hs⟩ : ∃ s, z0 k = s := ⟨_, rfl⟩
      rw [hs] at hc hsk hput
      have hkey : keyOf Try.prog 9 (.string s) = some (.string s.data.toList) := WideMaps.keyOf_string_mk Try.underlying9 (by unfold maxLen; omega)
      clear hs hc0
      go_wp2_with (at_mapUpdate; refine wpList_mapUpdate_own _ rfl _ _ _ 26 rfl 9 33 law9 Try.underlying26 anyE w1.heap.size k (Dk z0 k) rfl HO.out (by unfold maxLen; omega) _ _ _ rfl rfl hkey (.agg []) [] rfl ?_; intro w2 hown2 hg2)
      have HO2 : Hid (w2.ownsMap Try.prog 9 anyE w1.heap.size (k + 1) (Dk z0 (k + 1))) := by
        rw [← hput.out]
        exact hown2
      have HR2 : Hid (Below w1.heap.size w1 w2) := HR.out.grown hg2 HR.out.size (fun j hj => by cases hj; exact Nat.le_refl _)
      clear hown2 hg2
      go_roundw
      case rel => exact ⟨k + 1, by omega, by go_num, HO2.out, HR2.out⟩
      case measure => simp [intOf]; omega
    · obtain rfl : k = len0 := by omega
      clear hlt
      have H7 := Lib.hid (keys7 w1.heap.size k HSORT.out (Dk z0 k) wr HO.out (Nat.le_trans (Dk_size z0 k) (by omega)))
      go_wp2_with fail
      refine H7.out.mono ?_
      clear H7
      rintro e w3 ⟨g, cap, ss, rfl, hperm, hnd, hcell, hb3⟩
      have hgr : wr.grownBy w3 none := ⟨hb3.os, hb3.tape, hb3.output, hb3.size, fun i hi _ => hb3.block i hi⟩
      have hown3 : Hid (w3.ownsMap Try.prog 9 anyE w1.heap.size k (Dk z0 k)) := HO.out.kept hgr (by simp)
      have HB3 : Hid (Below w.heap.size w w3) := HB.out.trans ((HR.out.mono (Nat.le_refl _)).trans (hb3.mono HR.out.size) |>.mono HB.out.size)
      have HS3 : Hid (Strs w3 b k z0) := Strs_below HS.out (HR.out.trans (hb3.mono HR.out.size))
      have hszk : Maps.size (Dk z0 k) = ss.length := by rw [size_keys (Dk_tidy z0 k).isMap, hperm.length_eq]
      have hlen : ss.length ≤ 65536 := by have := Dk_size z0 k; omega
      have hGL : (ss.mergeSort leB).length = ss.length := List.length_mergeSort _
      have HG : Hid ((ss.mergeSort leB).Pairwise (· < ·)) := srt_strict hnd
      have HT : Hid (∀ i, i < k → ∃ t, t < (ss.mergeSort leB).length ∧ Gt (ss.mergeSort leB) t = (z0 i).data.toList) := fun i hi =>
        Gt_mem ((List.mergeSort_perm ss leB).mem_iff.2 (hperm.mem_iff.2 (mem_keys (Dk_has z0 hi))))
      clear hperm hnd hgr HO HR HB HS hb3 HSORT
      obtain ⟨G, hG⟩ : ∃ G, ss.mergeSort leB = G := ⟨_, rfl⟩
      rw [hG] at hcell hGL HG HT
      clear hG
      obtain ⟨n, hn'⟩ : ∃ n, ss.length = n := ⟨_, rfl⟩
      rw [hn'] at hcell hszk hlen hGL
      rw [hn']
      clear hn'
      obtain ⟨sz, hsz'⟩ : ∃ sz, Maps.size (Dk z0 k) = sz := ⟨_, rfl⟩
      have HC := Lib.hid hcell
      clear hcell
      go_wp2_with (at_len; refine wpList_len_own _ rfl _ 26 rfl 9 33 Try.underlying26 _ w1.heap.size k (Dk z0 k) rfl hown3.out ?_)
      clear hown3
      go_loopw [6] (fun v6 wx => ∃ j : Nat, j ≤ n ∧ v6 = .int .i64 ((j : Int) + 1) ∧ ∃ q, wx = w3.drewN q) (fun v6 _ => n + 1 - (intOf v6).toNat)
      case atStart => exact ⟨0, Nat.zero_le _, rfl, 0, rfl⟩
      case round =>
        obtain ⟨j, hj, rfl, q, rfl⟩ := hrel
        by_cases hlt : j + 1 < n
        · have c1 : ∀ m, (w3.drewN m).cell? ⟨g, j, none⟩ = some (.string (Sb G j)) := fun m => HC.out j (by omega)
          have c2 : ∀ m, (w3.drewN m).cell? ⟨g, j + 1, none⟩ = some (.string (Sb G (j + 1))) := fun m => HC.out (j + 1) (by omega)
          have hd : Op.bytesLess (Sb G j).toList (Sb G (j + 1)).toList = true := by
            rw [bytesLess_eq, ByteArray.toList_eq, ByteArray.toList_eq, Sb_list, Sb_list]
            exact decide_eq_true (Gt_lt HG.out (by omega) (by omega))
          go_wp2_with fail
          go_quiet (fail)
          go_wp2_with fail
          go_roundw
          case rel => exact ⟨j + 1, by omega, by go_num, _, rfl⟩
          case measure => simp [intOf]; omega
        · go_wp2_with fail
          go_loopw [7] (fun v7 wx => ∃ i : Nat, i ≤ k ∧ v7 = .int .i64 i ∧ ∃ q, wx = w3.drewN q) (fun v7 _ => k - (intOf v7).toNat)
          case atStart => exact ⟨0, Nat.zero_le _, rfl, _, rfl⟩
          case round =>
            clear hlt hj
            obtain ⟨i, hi, rfl, q', rfl⟩ := hrel
            by_cases hlt : i < k
            · obtain ⟨x, rfl, hc⟩ := HS3.out i hlt
              have hc' : (w3.drewN q').cell? (x.add i) = some (.string (z0 i)) := hc
              obtain ⟨t', ht', hk'⟩ := HT.out i hlt
              have H8 := has8 G g cap t' (z0 i) (w3.drewN q') HG.out (by omega) ht' hk' (fun i hi => HC.out i (by omega))
              rw [hGL] at H8
              have HH := Lib.hid H8
              clear hc H8 hk' ht'
              go_wp2_with fail
              refine HH.out.mono ?_
              clear HH
              rintro e wy ⟨rfl, rfl⟩
              go_wp2_with fail
              go_roundw
              case rel => exact ⟨i + 1, by omega, by go_num, _, rfl⟩
              case measure => simp [intOf]; omega
            · obtain rfl : i = k := by omega
              go_wp2_with fail
              go_ret
              exact ⟨rfl, below_drewN HB3.out _⟩

end Go.Proofs.Ytdikaidllmhbhaa.fnSortedKeysOfMapIsTheSortedKeySet
