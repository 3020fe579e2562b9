import Derived.Test.YtjngpnijogfmdacKit
import Derived.Test.YtjngpnijogfmdacTiB
namespace Go.Proofs.Ytjngpnijogfmdac.fnTryToInsertOptionalChainMarksExactlyTheTail
open Go.ChangeShapes Go.WideShapes Go.ChangeAt Go.RowKit
set_option linter.unusedVariables false
set_option maxRecDepth 100000
set_option maxHeartbeats 2000000

def Eq24 (w : World) (nm nm' : ByteArray) (e : Ending) (w' : World) : Prop := e = .returned (.bool (decide (nm = nm'))) ∧ w = w'
theorem eq24 (a a' : Option Addr) (nm nm' : ByteArray) (w : World) (hn : nm.size ≤ 1048576) (hn' : nm'.size ≤ 1048576) (h : Units w a nm) (h' : Units w a' nm') :
    Calls Try.prog 24 #[.slice a nm.size nm.size, .slice a' nm'.size nm'.size] w (Eq24 w nm nm') := by
  have HZ := Lib.hid h
  have HY := Lib.hid h'
  clear h h'
  by_cases hs : nm.size = nm'.size
  · have HS := Lib.hid hs
    obtain ⟨n, hnn⟩ : ∃ n, nm.size = n := ⟨_, rfl⟩
    have HN := Lib.hid hnn
    have hn2 : nm'.size = n := hs.symm.trans hnn
    rw [hnn] at hn
    rw [hnn, hn2]
    clear hs hnn hn2 hn'
    go_enter Try.func24, Try.ntmps24
    go_wp2
    go_loop [14] (fun v14 => ∃ k : Nat, k ≤ n ∧ v14 = .int .i64 k ∧ ∀ i, i < k → unit nm i = unit nm' i) (fun v14 => n - (intOf v14).toNat)
    case atStart => exact ⟨0, Nat.zero_le _, rfl, fun i hi => by omega⟩
    case round =>
      obtain ⟨k, hk, rfl, hs⟩ := hrel
      by_cases hlt : k < n
      · obtain ⟨x, rfl, hcx⟩ := HZ.out k (by rw [HN.out]; exact hlt)
        obtain ⟨x', rfl, hcy⟩ := HY.out k (by rw [← HS.out, HN.out]; exact hlt)
        obtain ⟨z0, z1⟩ := unit_in nm k
        obtain ⟨y0, y1⟩ := unit_in nm' k
        obtain ⟨u, hu⟩ : ∃ u, unit nm k = u := ⟨_, rfl⟩
        obtain ⟨v, hv⟩ : ∃ v, unit nm' k = v := ⟨_, rfl⟩
        rw [hu] at hcx z0 z1
        rw [hv] at hcy y0 y1
        have HSS := Lib.hid hs
        have HU := Lib.hid hu
        have HV := Lib.hid hv
        clear hs hu hv
        by_cases e : u = v
        · subst e
          go_wp2
          go_round
          case rel =>
            refine ⟨k + 1, by omega, by go_num, fun i hi => ?_⟩
            by_cases hik : i = k
            · subst hik; rw [HU.out, HV.out]
            · exact HSS.out i (by omega)
          case measure => simp [intOf]; omega
        · have hne : (u != v) = true := by simpa using e
          have hdec : decide (nm = nm') = false := decide_eq_false (fun e' => e (by rw [← HU.out, ← HV.out, e']))
          have HD := Lib.hid hdec
          clear hdec
          go_wp2
          go_ret
          exact ⟨ret_bool HD.out.symm, rfl⟩
      · obtain rfl : k = n := by omega
        have hdec : decide (nm = nm') = true := decide_eq_true (bytes_ext HS.out (fun i hi => hs i (by rw [HN.out] at hi; exact hi)))
        have HD := Lib.hid hdec
        clear hdec hs
        go_wp2
        go_ret
        exact ⟨ret_bool HD.out.symm, rfl⟩
  · have hdec : decide (nm = nm') = false := decide_eq_false (fun e' => hs (by rw [e']))
    have HD := Lib.hid hdec
    clear hdec
    go_enter Try.func24, Try.ntmps24
    go_wp2
    go_ret
    exact ⟨ret_bool HD.out.symm, rfl⟩

theorem check20s (s s' : Nat) (nm nm' : ByteArray) (k : Int) (w : World) (hn : nm.size ≤ 1048576) (hn' : nm'.size ≤ 1048576) (h : Lit8 w s nm) (h' : Lit8 w s' nm') : Calls Try.prog 20 #[.iface 55 (.pointer (some ⟨s, 0, none⟩)), .iface 55 (.pointer (some ⟨s', 0, none⟩)), .int .u8 k] w (Quiet w (.tuple #[.bool (decide (nm = nm')), .bool true])) := by
  obtain ⟨a, hr, hu⟩ := Lit8_old h
  obtain ⟨a', hr', hu'⟩ := Lit8_old h'
  have c1 := fun m => (hr.drewN m).cellv (j := 0) (v := .slice a nm.size nm.size) rfl
  have d1 := fun m => (hr'.drewN m).cellv (j := 0) (v := .slice a' nm'.size nm'.size) rfl
  have HU := Lib.hid hu
  have HU' := Lib.hid hu'
  have q24 : ∀ m, Calls Try.prog 24 #[.slice a nm.size nm.size, .slice a' nm'.size nm'.size] (w.drewN m) fun e w'' => e = .returned (.bool (decide (nm = nm'))) ∧ ∃ j, w'' = w.drewN j := fun m =>
    (eq24 a a' nm nm' (w.drewN m) hn hn' hu hu').mono fun _ _ ⟨he, hm⟩ => ⟨he, m, hm.symm⟩
  have HQ := Lib.hid q24
  clear hr hr' hu hu' q24
  obtain ⟨b, hb⟩ : ∃ b, decide (nm = nm') = b := ⟨_, rfl⟩
  rw [hb]
  rw [hb] at HQ
  clear hb
  go_enter Try.func20, Try.ntmps20
  go_wp2_with fail
  go_quiet ((go_at_call 24; exact HQ.out _))
  go_wp2_with fail
  go_ret2
  exact ⟨rfl, _, rfl⟩

theorem vls_str (s s' : Nat) (nm nm' : ByteArray) (w : World) (hn : nm.size ≤ 1048576) (hn' : nm'.size ≤ 1048576) (h : Lit8 w s nm) (h' : Lit8 w s' nm') : Calls Try.prog 14 #[.iface 55 (.pointer (some ⟨s, 0, none⟩)), .iface 55 (.pointer (some ⟨s', 0, none⟩))] w (Vls w (decide (nm = nm'))) := by
  have HH := Lib.hid h
  have HH' := Lib.hid h'
  clear h h'
  obtain ⟨b, hb⟩ : ∃ b, decide (nm = nm') = b := ⟨_, rfl⟩
  rw [hb]
  have HB := Lib.hid hb
  clear hb
  go_enter Try.func14, Try.ntmps14
  go_wp2_with fail
  refine (check20s s s' nm nm' _ _ hn hn' HH.out HH'.out).mono ?_
  rw [HB.out]
  rintro e w1 ⟨rfl, m, rfl⟩
  cases b
  all_goals
    go_wp2_with fail
    go_ret
    exact ⟨rfl, _, rfl⟩

end Go.Proofs.Ytjngpnijogfmdac.fnTryToInsertOptionalChainMarksExactlyTheTail
