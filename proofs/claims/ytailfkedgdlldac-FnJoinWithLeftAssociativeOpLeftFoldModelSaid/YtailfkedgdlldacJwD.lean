import Derived.Test.YtailfkedgdlldacKit
import Derived.Test.YtailfkedgdlldacJwA
namespace Go.Proofs.Ytailfkedgdlldac
open Go.ChangeShapes Go.WideShapes Go.ChangeAt Go.RowKit
set_option linter.unusedVariables false
set_option maxRecDepth 100000
set_option maxHeartbeats 2000000

/-- What the parser answers: no, or a tree and the place behind it. -/
def Parsed (len pos : Nat) (w : World) (e : Ending) (w' : World) : Prop :=
  ∃ (d : Value) (l next : Int) (ok : Bool), e = .returned (.tuple #[.agg #[d, .int .i32 l], .int .i64 next, .bool ok]) ∧ Below w.heap.size w w' ∧ d.oneCell' = true ∧ (ok = true → ∃ (t : Tr) (n : Nat), t.At w' ∧ t.d = d ∧ t.l = l ∧ next = n ∧ pos < n ∧ n ≤ len ∧ t.sz + pos ≤ n)

theorem parse (x : Addr) (len cap : Nat) (z : List Int) (base op other : Int) (hl : len ≤ 4096) (hb0 : 0 ≤ base) (hb1 : base ≤ 8192) (hz : ∀ i, i < len → 0 ≤ z.getD i 0 ∧ z.getD i 0 ≤ 255) :
    ∀ (fuel pos : Nat) (q : Int) (w : World), q = pos → len < fuel + pos → pos ≤ len → (∀ i, i < len → w.cell? (x.add i) = some (.int .u8 (z.getD i 0))) →
      Calls Try.prog 13 #[.slice (some x) len cap, .int .i64 q, .int .i64 base, .int .u8 op, .int .u8 other] w (Parsed len pos w)
  | 0, pos, q, w, hq, hf, hp, hc => by omega
  | fuel + 1, pos, q, w, hq, hf, hp, hc => by
    subst hq
    have HC := Lib.hid hc
    clear hc
    by_cases hlt : pos < len
    · obtain ⟨c, hcv⟩ : ∃ c, z.getD pos 0 = c := ⟨_, rfl⟩
      have c0 := HC.out pos hlt
      have y1 : (x.add pos).block < w.heap.size := cell_lt c0
      have y2 : (x.add pos).block < w.heap.size + 1 := by omega
      have hz0 := hz pos hlt
      rw [hcv] at c0 hz0
      obtain ⟨hz0, hz1⟩ := hz0
      have HZ := Lib.hid hz
      clear hcv hz
      by_cases h0 : c = 0
      · subst h0
        go_enter Try.func13, Try.ntmps13
        go_wp2_with fail
        go_returns
        exact ⟨_, _, _, _, rfl, by go_grown, rfl, fun _ => ⟨.leaf _ _, pos + 1, trivial, rfl, rfl, by omega, by omega, by omega, by simp [Tr.sz]; omega⟩⟩
      · by_cases h3 : 3 < c
        · go_enter Try.func13, Try.ntmps13
          go_wp2_with fail
          go_returns
          exact ⟨_, _, _, _, rfl, by go_grown, rfl, fun e => by cases e⟩
        · have hcs : ∃ o, (c = 1 ∧ o = op) ∨ (c = 2 ∧ o = 36) ∨ (c = 3 ∧ o = other) := by
            by_cases e1 : c = 1
            · exact ⟨_, .inl ⟨e1, rfl⟩⟩
            · by_cases e2 : c = 2
              · exact ⟨_, .inr (.inl ⟨e2, rfl⟩)⟩
              · exact ⟨_, .inr (.inr ⟨by omega, rfl⟩)⟩
          clear h0 h3
          obtain ⟨o, hcs⟩ := hcs
          rcases hcs with ⟨rfl, rfl⟩ | ⟨rfl, rfl⟩ | ⟨rfl, rfl⟩
          · go_enter Try.func13, Try.ntmps13
            go_wp2_with fail
            refine (parse x len cap z base _ _ hl hb0 hb1 HZ.out fuel (pos + 1) _ _ (by omega) (by omega) (by omega) (fun i hi => later (HC.out i hi) (by go_grown))).mono ?_
            rintro e w1 ⟨d1, l1, nx1, ok1, rfl, b1, hd1, ht1⟩
            have B1 : Below w.heap.size w w1 := Below.trans (by go_grown) (b1.mono (by go_size))
            have RR : RowAt w1 w.heap.size #[.nilIface, .int .i32 0] 27 := ((RowAt.new _ _ _).alloc _).below b1 (by go_size)
            have RL : RowAt w1 (w.heap.size + 1) #[.int .i32 (pos + base)] 25 := (RowAt.newAt (by go_size)).below b1 (by go_size)
            have hst1 := fun (A : Addr) (W : World) (m : Mode) => run_store Try.prog W A d1 m hd1
            have u0 := RR.cellv (j := 0) (v := .nilIface) rfl
            have u1 := RR.cellv (j := 1) (v := .int .i32 0) rfl
            have f0 := RR.frozen 0
            have f1 := RR.frozen 1
            have u2 := RL.cellv (j := 0) (v := .int .i32 (pos + base)) rfl
            have z1 := RR.lt
            have z2 := RL.lt
            have HRR := Lib.hid RR
            have HRL := Lib.hid RL
            have HT1 := Lib.hid ht1
            clear b1 ht1 RR RL
            cases ok1
            · go_wp2_with fail
              have RE := (((HRR.out.set 0 .nilIface).set 1 (.int .i32 0)).alloc (.cells #[d1, .int .i32 l1] 27))
              have e0 := RE.cellv (j := 0) (v := .nilIface) (by simp)
              have e1 := RE.cellv (j := 1) (v := .int .i32 0) (by simp)
              refine bodyPost_ret (v := .tuple #[.agg #[.nilIface, .int .i32 0], .int .i64 pos, .bool false]) (by simp only [results, Try.results13]; simp [go_sem, e0, e1]) rfl ⟨_, _, _, _, rfl, by go_grown, rfl, fun e => by cases e⟩
            · obtain ⟨t1, n1, a1, hd1', hl1', rfl, g1, g2, g3⟩ := HT1.out rfl
              have HA1 := Lib.hid a1
              have HD1 := Lib.hid hd1'
              have HL1 := Lib.hid hl1'
              clear HT1 a1 hd1' hl1'
              go_wp2_with fail
              refine (parse x len cap z base _ _ hl hb0 hb1 HZ.out fuel n1 _ _ rfl (by omega) (by omega) (fun i hi => later (HC.out i hi) (by go_grown))).mono ?_
              rintro e w2 ⟨d2, l2, nx2, ok2, rfl, b2, hd2, ht2⟩
              have B2 : Below w.heap.size w w2 := B1.trans (Below.trans (by go_grown) (b2.mono (by go_size)))
              have BB : Below w1.heap.size w1 w2 := Below.trans (by go_grown) (b2.mono (by go_size))
              have RR := HRR.out.below BB HRR.out.lt
              have RL := HRL.out.below BB HRL.out.lt
              have RA : RowAt w2 w1.heap.size #[d1, .int .i32 l1] 27 := (RowAt.new _ _ _).below b2 (by go_size)
              clear u0 u1 f0 f1 u2 z1 z2 HRR HRL
              have hst2 := fun (A : Addr) (W : World) (m : Mode) => run_store Try.prog W A d2 m hd2
              have u0 := RR.cellv (j := 0) (v := .nilIface) rfl
              have u1 := RR.cellv (j := 1) (v := .int .i32 0) rfl
              have f0 := RR.frozen 0
              have f1 := RR.frozen 1
              have u2 := RL.cellv (j := 0) (v := .int .i32 (pos + base)) rfl
              have u3 := RA.cellv (j := 0) (v := d1) rfl
              have u4 := RA.cellv (j := 1) (v := .int .i32 l1) rfl
              have z1 := RR.lt
              have z2 := RL.lt
              have z3 := RA.lt
              have z1' : w.heap.size < w2.heap.size + 1 := by omega
              have z2' : w.heap.size + 1 < w2.heap.size + 1 := by omega
              have z3' : w1.heap.size < w2.heap.size + 1 := by omega
              have HRR := Lib.hid RR
              have HT2 := Lib.hid ht2
              have HBB := Lib.hid BB
              clear b2 ht2 RR RL RA BB
              cases ok2
              · go_wp2_with fail
                have RE := (((HRR.out.set 0 .nilIface).set 1 (.int .i32 0)).alloc (.cells #[d2, .int .i32 l2] 27))
                have e0 := RE.cellv (j := 0) (v := .nilIface) (by simp)
                have e1 := RE.cellv (j := 1) (v := .int .i32 0) (by simp)
                refine bodyPost_ret (v := .tuple #[.agg #[.nilIface, .int .i32 0], .int .i64 pos, .bool false]) (by simp only [results, Try.results13]; simp [go_sem, e0, e1]) rfl ⟨_, _, _, _, rfl, by go_grown, rfl, fun e => by cases e⟩
              · obtain ⟨t2, n2, a2, hd2', hl2', rfl, g4, g5, g6⟩ := HT2.out rfl
                have HA2 := Lib.hid a2
                have HD2 := Lib.hid hd2'
                have HL2 := Lib.hid hl2'
                clear HT2 a2 hd2' hl2'
                go_wp2_with fail
                have RE := ((((HRR.out.set 0 (.iface 50 (.pointer (some ⟨w2.heap.size + 1, 0, none⟩)))).set 1 (.int .i32 (pos + base))).alloc (.cells #[d2, .int .i32 l2] 27)).alloc (.cells #[d1, .int .i32 l1, d2, .int .i32 l2, .int .u8 o, .bool false] 53))
                have e0 := RE.cellv (j := 0) (v := .iface 50 (.pointer (some ⟨w2.heap.size + 1, 0, none⟩))) (by simp)
                have e1 := RE.cellv (j := 1) (v := .int .i32 (pos + base)) (by simp)
                refine bodyPost_ret (v := .tuple #[.agg #[.iface 50 (.pointer (some ⟨w2.heap.size + 1, 0, none⟩)), .int .i32 (pos + base)], .int .i64 n2, .bool true]) (by simp only [results, Try.results13]; simp [go_sem, e0, e1]) rfl ⟨_, _, _, _, rfl, by go_grown, rfl, fun _ => ⟨.bin (w2.heap.size + 1) (pos + base) o false t1 t2, n2, ⟨?_, ?_, ?_⟩, rfl, rfl, rfl, by omega, by omega, by simp only [Tr.sz]; omega⟩⟩
                · rw [HD1.out, HL1.out, HD2.out, HL2.out]
                  refine RowAt.newAt ?_
                  simp
                · exact (HA1.out.kept (K5.later HBB.out)).kept (((K5.box HRR.out (by decide) 0 _).trans (K5.box (HRR.out.set 0 _) (by decide) 1 _)).trans (K5.later (by go_grown)))
                · exact HA2.out.kept (((K5.box HRR.out (by decide) 0 _).trans (K5.box (HRR.out.set 0 _) (by decide) 1 _)).trans (K5.later (by go_grown)))
          · go_enter Try.func13, Try.ntmps13
            go_wp2_with fail
            refine (parse x len cap z base _ _ hl hb0 hb1 HZ.out fuel (pos + 1) _ _ (by omega) (by omega) (by omega) (fun i hi => later (HC.out i hi) (by go_grown))).mono ?_
            rintro e w1 ⟨d1, l1, nx1, ok1, rfl, b1, hd1, ht1⟩
            have B1 : Below w.heap.size w w1 := Below.trans (by go_grown) (b1.mono (by go_size))
            have RR : RowAt w1 w.heap.size #[.nilIface, .int .i32 0] 27 := ((RowAt.new _ _ _).alloc _).below b1 (by go_size)
            have RL : RowAt w1 (w.heap.size + 1) #[.int .i32 (pos + base)] 25 := (RowAt.newAt (by go_size)).below b1 (by go_size)
            have hst1 := fun (A : Addr) (W : World) (m : Mode) => run_store Try.prog W A d1 m hd1
            have u0 := RR.cellv (j := 0) (v := .nilIface) rfl
            have u1 := RR.cellv (j := 1) (v := .int .i32 0) rfl
            have f0 := RR.frozen 0
            have f1 := RR.frozen 1
            have u2 := RL.cellv (j := 0) (v := .int .i32 (pos + base)) rfl
            have z1 := RR.lt
            have z2 := RL.lt
            have HRR := Lib.hid RR
            have HRL := Lib.hid RL
            have HT1 := Lib.hid ht1
            clear b1 ht1 RR RL
            cases ok1
            · go_wp2_with fail
              have RE := (((HRR.out.set 0 .nilIface).set 1 (.int .i32 0)).alloc (.cells #[d1, .int .i32 l1] 27))
              have e0 := RE.cellv (j := 0) (v := .nilIface) (by simp)
              have e1 := RE.cellv (j := 1) (v := .int .i32 0) (by simp)
              refine bodyPost_ret (v := .tuple #[.agg #[.nilIface, .int .i32 0], .int .i64 pos, .bool false]) (by simp only [results, Try.results13]; simp [go_sem, e0, e1]) rfl ⟨_, _, _, _, rfl, by go_grown, rfl, fun e => by cases e⟩
            · obtain ⟨t1, n1, a1, hd1', hl1', rfl, g1, g2, g3⟩ := HT1.out rfl
              have HA1 := Lib.hid a1
              have HD1 := Lib.hid hd1'
              have HL1 := Lib.hid hl1'
              clear HT1 a1 hd1' hl1'
              go_wp2_with fail
              refine (parse x len cap z base _ _ hl hb0 hb1 HZ.out fuel n1 _ _ rfl (by omega) (by omega) (fun i hi => later (HC.out i hi) (by go_grown))).mono ?_
              rintro e w2 ⟨d2, l2, nx2, ok2, rfl, b2, hd2, ht2⟩
              have B2 : Below w.heap.size w w2 := B1.trans (Below.trans (by go_grown) (b2.mono (by go_size)))
              have BB : Below w1.heap.size w1 w2 := Below.trans (by go_grown) (b2.mono (by go_size))
              have RR := HRR.out.below BB HRR.out.lt
              have RL := HRL.out.below BB HRL.out.lt
              have RA : RowAt w2 w1.heap.size #[d1, .int .i32 l1] 27 := (RowAt.new _ _ _).below b2 (by go_size)
              clear u0 u1 f0 f1 u2 z1 z2 HRR HRL
              have hst2 := fun (A : Addr) (W : World) (m : Mode) => run_store Try.prog W A d2 m hd2
              have u0 := RR.cellv (j := 0) (v := .nilIface) rfl
              have u1 := RR.cellv (j := 1) (v := .int .i32 0) rfl
              have f0 := RR.frozen 0
              have f1 := RR.frozen 1
              have u2 := RL.cellv (j := 0) (v := .int .i32 (pos + base)) rfl
              have u3 := RA.cellv (j := 0) (v := d1) rfl
              have u4 := RA.cellv (j := 1) (v := .int .i32 l1) rfl
              have z1 := RR.lt
              have z2 := RL.lt
              have z3 := RA.lt
              have z1' : w.heap.size < w2.heap.size + 1 := by omega
              have z2' : w.heap.size + 1 < w2.heap.size + 1 := by omega
              have z3' : w1.heap.size < w2.heap.size + 1 := by omega
              have HRR := Lib.hid RR
              have HT2 := Lib.hid ht2
              have HBB := Lib.hid BB
              clear b2 ht2 RR RL RA BB
              cases ok2
              · go_wp2_with fail
                have RE := (((HRR.out.set 0 .nilIface).set 1 (.int .i32 0)).alloc (.cells #[d2, .int .i32 l2] 27))
                have e0 := RE.cellv (j := 0) (v := .nilIface) (by simp)
                have e1 := RE.cellv (j := 1) (v := .int .i32 0) (by simp)
                refine bodyPost_ret (v := .tuple #[.agg #[.nilIface, .int .i32 0], .int .i64 pos, .bool false]) (by simp only [results, Try.results13]; simp [go_sem, e0, e1]) rfl ⟨_, _, _, _, rfl, by go_grown, rfl, fun e => by cases e⟩
              · obtain ⟨t2, n2, a2, hd2', hl2', rfl, g4, g5, g6⟩ := HT2.out rfl
                have HA2 := Lib.hid a2
                have HD2 := Lib.hid hd2'
                have HL2 := Lib.hid hl2'
                clear HT2 a2 hd2' hl2'
                go_wp2_with fail
                have RE := ((((HRR.out.set 0 (.iface 50 (.pointer (some ⟨w2.heap.size + 1, 0, none⟩)))).set 1 (.int .i32 (pos + base))).alloc (.cells #[d2, .int .i32 l2] 27)).alloc (.cells #[d1, .int .i32 l1, d2, .int .i32 l2, .int .u8 36, .bool false] 53))
                have e0 := RE.cellv (j := 0) (v := .iface 50 (.pointer (some ⟨w2.heap.size + 1, 0, none⟩))) (by simp)
                have e1 := RE.cellv (j := 1) (v := .int .i32 (pos + base)) (by simp)
                refine bodyPost_ret (v := .tuple #[.agg #[.iface 50 (.pointer (some ⟨w2.heap.size + 1, 0, none⟩)), .int .i32 (pos + base)], .int .i64 n2, .bool true]) (by simp only [results, Try.results13]; simp [go_sem, e0, e1]) rfl ⟨_, _, _, _, rfl, by go_grown, rfl, fun _ => ⟨.bin (w2.heap.size + 1) (pos + base) 36 false t1 t2, n2, ⟨?_, ?_, ?_⟩, rfl, rfl, rfl, by omega, by omega, by simp only [Tr.sz]; omega⟩⟩
                · rw [HD1.out, HL1.out, HD2.out, HL2.out]
                  refine RowAt.newAt ?_
                  simp
                · exact (HA1.out.kept (K5.later HBB.out)).kept (((K5.box HRR.out (by decide) 0 _).trans (K5.box (HRR.out.set 0 _) (by decide) 1 _)).trans (K5.later (by go_grown)))
                · exact HA2.out.kept (((K5.box HRR.out (by decide) 0 _).trans (K5.box (HRR.out.set 0 _) (by decide) 1 _)).trans (K5.later (by go_grown)))
          · go_enter Try.func13, Try.ntmps13
            go_wp2_with fail
            refine (parse x len cap z base _ _ hl hb0 hb1 HZ.out fuel (pos + 1) _ _ (by omega) (by omega) (by omega) (fun i hi => later (HC.out i hi) (by go_grown))).mono ?_
            rintro e w1 ⟨d1, l1, nx1, ok1, rfl, b1, hd1, ht1⟩
            have B1 : Below w.heap.size w w1 := Below.trans (by go_grown) (b1.mono (by go_size))
            have RR : RowAt w1 w.heap.size #[.nilIface, .int .i32 0] 27 := ((RowAt.new _ _ _).alloc _).below b1 (by go_size)
            have RL : RowAt w1 (w.heap.size + 1) #[.int .i32 (pos + base)] 25 := (RowAt.newAt (by go_size)).below b1 (by go_size)
            have hst1 := fun (A : Addr) (W : World) (m : Mode) => run_store Try.prog W A d1 m hd1
            have u0 := RR.cellv (j := 0) (v := .nilIface) rfl
            have u1 := RR.cellv (j := 1) (v := .int .i32 0) rfl
            have f0 := RR.frozen 0
            have f1 := RR.frozen 1
            have u2 := RL.cellv (j := 0) (v := .int .i32 (pos + base)) rfl
            have z1 := RR.lt
            have z2 := RL.lt
            have HRR := Lib.hid RR
            have HRL := Lib.hid RL
            have HT1 := Lib.hid ht1
            clear b1 ht1 RR RL
            cases ok1
            · go_wp2_with fail
              have RE := (((HRR.out.set 0 .nilIface).set 1 (.int .i32 0)).alloc (.cells #[d1, .int .i32 l1] 27))
              have e0 := RE.cellv (j := 0) (v := .nilIface) (by simp)
              have e1 := RE.cellv (j := 1) (v := .int .i32 0) (by simp)
              refine bodyPost_ret (v := .tuple #[.agg #[.nilIface, .int .i32 0], .int .i64 pos, .bool false]) (by simp only [results, Try.results13]; simp [go_sem, e0, e1]) rfl ⟨_, _, _, _, rfl, by go_grown, rfl, fun e => by cases e⟩
            · obtain ⟨t1, n1, a1, hd1', hl1', rfl, g1, g2, g3⟩ := HT1.out rfl
              have HA1 := Lib.hid a1
              have HD1 := Lib.hid hd1'
              have HL1 := Lib.hid hl1'
              clear HT1 a1 hd1' hl1'
              go_wp2_with fail
              refine (parse x len cap z base _ _ hl hb0 hb1 HZ.out fuel n1 _ _ rfl (by omega) (by omega) (fun i hi => later (HC.out i hi) (by go_grown))).mono ?_
              rintro e w2 ⟨d2, l2, nx2, ok2, rfl, b2, hd2, ht2⟩
              have B2 : Below w.heap.size w w2 := B1.trans (Below.trans (by go_grown) (b2.mono (by go_size)))
              have BB : Below w1.heap.size w1 w2 := Below.trans (by go_grown) (b2.mono (by go_size))
              have RR := HRR.out.below BB HRR.out.lt
              have RL := HRL.out.below BB HRL.out.lt
              have RA : RowAt w2 w1.heap.size #[d1, .int .i32 l1] 27 := (RowAt.new _ _ _).below b2 (by go_size)
              clear u0 u1 f0 f1 u2 z1 z2 HRR HRL
              have hst2 := fun (A : Addr) (W : World) (m : Mode) => run_store Try.prog W A d2 m hd2
              have u0 := RR.cellv (j := 0) (v := .nilIface) rfl
              have u1 := RR.cellv (j := 1) (v := .int .i32 0) rfl
              have f0 := RR.frozen 0
              have f1 := RR.frozen 1
              have u2 := RL.cellv (j := 0) (v := .int .i32 (pos + base)) rfl
              have u3 := RA.cellv (j := 0) (v := d1) rfl
              have u4 := RA.cellv (j := 1) (v := .int .i32 l1) rfl
              have z1 := RR.lt
              have z2 := RL.lt
              have z3 := RA.lt
              have z1' : w.heap.size < w2.heap.size + 1 := by omega
              have z2' : w.heap.size + 1 < w2.heap.size + 1 := by omega
              have z3' : w1.heap.size < w2.heap.size + 1 := by omega
              have HRR := Lib.hid RR
              have HT2 := Lib.hid ht2
              have HBB := Lib.hid BB
              clear b2 ht2 RR RL RA BB
              cases ok2
              · go_wp2_with fail
                have RE := (((HRR.out.set 0 .nilIface).set 1 (.int .i32 0)).alloc (.cells #[d2, .int .i32 l2] 27))
                have e0 := RE.cellv (j := 0) (v := .nilIface) (by simp)
                have e1 := RE.cellv (j := 1) (v := .int .i32 0) (by simp)
                refine bodyPost_ret (v := .tuple #[.agg #[.nilIface, .int .i32 0], .int .i64 pos, .bool false]) (by simp only [results, Try.results13]; simp [go_sem, e0, e1]) rfl ⟨_, _, _, _, rfl, by go_grown, rfl, fun e => by cases e⟩
              · obtain ⟨t2, n2, a2, hd2', hl2', rfl, g4, g5, g6⟩ := HT2.out rfl
                have HA2 := Lib.hid a2
                have HD2 := Lib.hid hd2'
                have HL2 := Lib.hid hl2'
                clear HT2 a2 hd2' hl2'
                go_wp2_with fail
                have RE := ((((HRR.out.set 0 (.iface 50 (.pointer (some ⟨w2.heap.size + 1, 0, none⟩)))).set 1 (.int .i32 (pos + base))).alloc (.cells #[d2, .int .i32 l2] 27)).alloc (.cells #[d1, .int .i32 l1, d2, .int .i32 l2, .int .u8 o, .bool false] 53))
                have e0 := RE.cellv (j := 0) (v := .iface 50 (.pointer (some ⟨w2.heap.size + 1, 0, none⟩))) (by simp)
                have e1 := RE.cellv (j := 1) (v := .int .i32 (pos + base)) (by simp)
                refine bodyPost_ret (v := .tuple #[.agg #[.iface 50 (.pointer (some ⟨w2.heap.size + 1, 0, none⟩)), .int .i32 (pos + base)], .int .i64 n2, .bool true]) (by simp only [results, Try.results13]; simp [go_sem, e0, e1]) rfl ⟨_, _, _, _, rfl, by go_grown, rfl, fun _ => ⟨.bin (w2.heap.size + 1) (pos + base) o false t1 t2, n2, ⟨?_, ?_, ?_⟩, rfl, rfl, rfl, by omega, by omega, by simp only [Tr.sz]; omega⟩⟩
                · rw [HD1.out, HL1.out, HD2.out, HL2.out]
                  refine RowAt.newAt ?_
                  simp
                · exact (HA1.out.kept (K5.later HBB.out)).kept (((K5.box HRR.out (by decide) 0 _).trans (K5.box (HRR.out.set 0 _) (by decide) 1 _)).trans (K5.later (by go_grown)))
                · exact HA2.out.kept (((K5.box HRR.out (by decide) 0 _).trans (K5.box (HRR.out.set 0 _) (by decide) 1 _)).trans (K5.later (by go_grown)))
    · obtain rfl : pos = len := by omega
      go_enter Try.func13, Try.ntmps13
      go_wp2_with fail
      go_returns
      exact ⟨_, _, _, _, rfl, by go_grown, rfl, fun e => by cases e⟩

end Go.Proofs.Ytailfkedgdlldac
