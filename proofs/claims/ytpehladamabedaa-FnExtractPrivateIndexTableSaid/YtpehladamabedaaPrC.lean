import Derived.Test.YtpehladamabedaaKit
import Derived.Test.YtpehladamabedaaPrB
namespace Go.Proofs.Ytpehladamabedaa.fnExtractPrivateIndexTable
open Go.ChangeShapes Go.WideShapes Go.ChangeAt Go.RowKit
set_option linter.unusedVariables false
set_option maxRecDepth 100000
set_option maxHeartbeats 2000000

theorem build265p (a b c : Option Nat) (x : Option Addr) (n m : Nat) (w : World) : (Instr.build 265 #[(9, .slice x n m), (27, .map a), (28, .map b), (20, .map c)]).run Try.prog w = .ok (.agg ((((PZ265.setIfInBounds 106 (.slice x n m)).setIfInBounds 156 (.map a)).setIfInBounds 157 (.map b)).setIfInBounds 117 (.map c))) w := by kernel_rfl

theorem newP (R a b c : Nat) (w : World) : Calls Try.prog 52 #[.slice (some ⟨R, 0, none⟩) 9 9, .map (some a), .map (some b), .map (some c)] w fun e w' => ∃ p, e = .returned (.pointer (some ⟨p, 0, none⟩)) ∧
    w'.cell? ⟨p, 106, none⟩ = some (.slice (some ⟨R, 0, none⟩) 9 9) ∧ w'.cell? ⟨p, 23, none⟩ = some (.int .u64 0) ∧ Below w.heap.size w w' := by
  go_enter Try.func52, Try.ntmps52
  go_wp2_with (refine wpList_build rfl 265 _ rfl #[(9, .slice (some ⟨R, 0, none⟩) 9 9), (27, .map (some a)), (28, .map (some b)), (20, .map (some c))] (by simp [Act.eval]) _ (build265p _ _ _ _ _ _ _) ?_)
  go_ret
  refine ⟨_, rfl, ?_, ?_, by go_grown⟩
  · go_simp
  · go_simp
    exact Option.some.inj ((Array.getElem?_eq_getElem (by simp)).symm.trans PZ265_23)

theorem info92 : (Try.prog.info? 92).map (fun i => (i.zero, i.size, i.bytes)) = some (some (.agg #[.pointer none, .string ⟨#[]⟩, .int .u32 0, .int .u32 0, .int .u32 0, .int .u32 0, .int .u32 0, .int .u16 0, .int .u8 0, .int .u8 0]), 10, 48) := by kernel_rfl

/-- A row of 90 cells. -/
def Row90 (w : World) (R : Nat) : Prop := ∃ cs, RowAt w R cs 92 ∧ cs.size = 90

theorem Row90.at_ {w : World} {R i : Nat} (h : Row90 w R) (hi : i < 90) : ∃ v, w.cell? ⟨R, i, none⟩ = some v := by
  obtain ⟨cs, hr, hs⟩ := h
  exact ⟨_, hr.cellv (Array.getElem?_eq_getElem (by omega))⟩
theorem Row90.frozen {w : World} {R : Nat} (h : Row90 w R) (i : Nat) : w.frozen? ⟨R, i, none⟩ = false := by
  obtain ⟨cs, hr, hs⟩ := h
  exact hr.frozen i
theorem Row90.set {w : World} {R : Nat} (h : Row90 w R) (i : Nat) (v : Value) : Row90 (w.setCell ⟨R, i, none⟩ v) R := by
  obtain ⟨cs, hr, hs⟩ := h
  exact ⟨_, hr.set i v, by simpa using hs⟩
theorem Row90.lt {w : World} {R : Nat} (h : Row90 w R) : R < w.heap.size := by
  obtain ⟨cs, hr, hs⟩ := h
  exact hr.lt

theorem keyS : KeysLike Try.prog 9 IsStr := keys_str Try.underlying9
theorem keyR : KeysLike Try.prog 38 IsPair := keys_pair Try.underlying38 Try.underlying22 Try.underlying22 (by decide +kernel) (by decide +kernel) rfl rfl (by kernel_rfl)

theorem wpList_ins {P : Program} {w : World} {S : Value → Prop} {ops : Array Oper} {rest : List Oper} {o : Oper} {a : Act} {Q : Exit → Act → World → Prop} (hg : o.guard = none) (m x y : Operand) (t : TypeId) (hop : o.op = Op.insert t m x y)
    (k e : TypeId) (K : KeysLike P k S) (ht : P.underlying t = some (.map k e)) (b n : Nat) (F : Value → Option Value) (hm : a.eval m = .map (some b)) (h : MapIs w b S F n) (v u : Value) (hx : a.eval x = v) (hy : a.eval y = u) (hv : S v)
    (hK : ∀ w' n', MapIs w' b S (putF F v u) n' → Turned b w w' → wpList P ops Q rest (a.put o.dst undef) w') : wpList P ops Q (o :: rest) a w := by
  refine wpList_plain hg fun K' hK' => ?_
  obtain ⟨w', hrun, r1, r2⟩ := h.update (x := u) K ht hv
  unfold Oper.wp
  simp [execOp, hop, hm, hx, hy, hrun, Result.andThen]
  exact hK' _ _ (hK w' _ r1 r2)

/-- The first symbol as it was made; nothing old has turned. -/
def Keep (w wx : World) (K : Int) (m : Bool) : Prop :=
  wx.cell? ⟨w.heap.size, 7, none⟩ = some (.int .u16 (if m then 8 else 0)) ∧ wx.cell? ⟨w.heap.size, 8, none⟩ = some (.int .u8 K) ∧ w.heap.size < wx.heap.size ∧ Below w.heap.size w wx

theorem Keep.later {w wx wy : World} {K : Int} {m : Bool} (h : Keep w wx K m) (hb : Below wx.heap.size wx wy) : Keep w wy K m :=
  ⟨Ytpehladamabedaa.later h.1 hb, Ytpehladamabedaa.later h.2.1 hb, Nat.lt_of_lt_of_le h.2.2.1 hb.size, h.2.2.2.trans (hb.mono h.2.2.2.size)⟩
theorem Keep.turned {w wx wy : World} {K : Int} {m : Bool} {b : Nat} (h : Keep w wx K m) (hb : Turned b wx wy) (hlt : w.heap.size < b) : Keep w wy K m :=
  ⟨(hb.cell (by omega)).trans h.1, (hb.cell (by omega)).trans h.2.1, by rw [hb.size]; exact h.2.2.1, h.2.2.2.trans (hb.below (by omega))⟩
theorem Keep.alloc {w wx : World} {K : Int} {m : Bool} (h : Keep w wx K m) (o : Obj) : Keep w (wx.alloc o) K m := h.later ((Below.refl _ _).alloc (Nat.le_refl _) _)

theorem keep_set {w wr : World} {K : Int} (h : Row90 wr w.heap.size) (hb : Below w.heap.size w wr) :
    Keep w ((wr.setCell ⟨w.heap.size, 8, none⟩ (.int .u8 K)).setCell ⟨w.heap.size, 7, none⟩ (.int .u16 0)) K false := by
  obtain ⟨cs, hr, hs⟩ := h
  have r := (hr.set 8 (.int .u8 K)).set 7 (.int .u16 0)
  refine ⟨r.cellv ?_, r.cellv ?_, r.lt, by go_grown⟩
  · rw [Array.getElem?_setIfInBounds, if_pos rfl, if_pos (by simp; omega)]; rfl
  · rw [Array.getElem?_setIfInBounds, if_neg (by omega), Array.getElem?_setIfInBounds, if_pos rfl, if_pos (by omega)]
theorem keep_set1 {w wr : World} {K : Int} (h : Row90 wr w.heap.size) (hb : Below w.heap.size w wr) :
    Keep w ((wr.setCell ⟨w.heap.size, 8, none⟩ (.int .u8 K)).setCell ⟨w.heap.size, 7, none⟩ (.int .u16 8)) K true := by
  obtain ⟨cs, hr, hs⟩ := h
  have r := (hr.set 8 (.int .u8 K)).set 7 (.int .u16 8)
  refine ⟨r.cellv ?_, r.cellv ?_, r.lt, by go_grown⟩
  · rw [Array.getElem?_setIfInBounds, if_pos rfl, if_pos (by simp; omega)]; rfl
  · rw [Array.getElem?_setIfInBounds, if_neg (by omega), Array.getElem?_setIfInBounds, if_pos rfl, if_pos (by omega)]
theorem keep_set2 {w wr : World} {K : Int} (h : Row90 wr w.heap.size) (hb : Below w.heap.size w wr) :
    Keep w (((wr.setCell ⟨w.heap.size, 8, none⟩ (.int .u8 K)).setCell ⟨w.heap.size, 7, none⟩ (.int .u16 0)).setCell ⟨w.heap.size, 7, none⟩ (.int .u16 8)) K true := by
  obtain ⟨cs, hr, hs⟩ := h
  have r := ((hr.set 8 (.int .u8 K)).set 7 (.int .u16 0)).set 7 (.int .u16 8)
  refine ⟨r.cellv ?_, r.cellv ?_, r.lt, by go_grown⟩
  · rw [Array.getElem?_setIfInBounds, if_pos rfl, if_pos (by simp; omega)]; rfl
  · rw [Array.getElem?_setIfInBounds, if_neg (by omega), Array.getElem?_setIfInBounds, if_neg (by omega), Array.getElem?_setIfInBounds, if_pos rfl, if_pos (by omega)]

theorem newPars (s : Int) (m o : Bool) (w : World) (h0 : 0 ≤ s) (h1 : s ≤ 10) : Calls Try.prog 11 #[.int .u8 s, .bool m, .bool o] w fun e w' => ∃ p, e = .returned (.pointer (some ⟨p, 0, none⟩)) ∧ Pars w' p s m ∧ Below w.heap.size w w' := by
  obtain ⟨i0, hi, hz0, hz1, hz2⟩ := info_parts info92
  have hmm := @run_makeMap Try.prog
  go_enter Try.func11, Try.ntmps11
  go_wp2_with (at_make; refine wpList_make_full _ rfl _ _ 83 rfl w.heap.size 92 i0 _ 10 Try.underlying83 hi hz0 hz1 .i64 .i64 _ _ 9 rfl rfl rfl rfl (by rw [hz2]; omega) (by unfold maxLen; omega) (Nat.le_refl _) ?_)
  intro w1 hown hgrow
  clear hi hz0 hz1 hz2 i0
  have hR1 : Row90 w1 w.heap.size := by
    obtain ⟨cs, hr, hs, _⟩ := RowAt.of_owns hown
    exact ⟨cs, hr, by omega⟩
  have hb1 : Below w.heap.size w w1 := (Below.refl _ _).grown hgrow (Nat.le_refl _) (fun k hk => by cases hk)
  clear hown hgrow
  go_wp2_with fail
  go_loopw [8] (fun v8 wr => ∃ k : Nat, k ≤ 9 ∧ v8 = .int .i64 k ∧ Row90 wr w.heap.size ∧ Below w.heap.size w wr) (fun v8 _ => 9 - (intOf v8).toNat)
  case atStart => exact ⟨0, Nat.zero_le _, rfl, hR1, hb1⟩
  case round =>
    obtain ⟨k, hk, rfl, hR, hb⟩ := hrel
    clear hR1 hb1
    have HR := Lib.hid hR
    by_cases hlt : k < 9
    · obtain ⟨x7, c7⟩ := hR.at_ (i := k * 10 + 7) (by omega)
      obtain ⟨x8, c8⟩ := hR.at_ (i := k * 10 + 8) (by omega)
      have f7 := hR.frozen (k * 10 + 7)
      have f8 := hR.frozen (k * 10 + 8)
      clear hR
      cases o
      · go_wp2_with fail
        go_roundw
        case rel => exact ⟨k + 1, by omega, by go_num, HR.out.set _ _, by go_grown⟩
        case measure => simp [intOf]; omega
      · go_wp2_with fail
        go_roundw
        case rel => exact ⟨k + 1, by omega, by go_num, (HR.out.set _ _).set _ _, by go_grown⟩
        case measure => simp [intOf]; omega
    · obtain rfl : k = 9 := by omega
      clear hR
      obtain ⟨x7, c7⟩ := HR.out.at_ (i := 7) (by omega)
      obtain ⟨x8, c8⟩ := HR.out.at_ (i := 8) (by omega)
      have f7 := HR.out.frozen 7
      have f8 := HR.out.frozen 8
      have hlt2 := HR.out.lt
      go_wp2_with fail
      refine (kind51 s _ h0 h1).mono ?_
      rintro e w2 ⟨rfl, rfl⟩
      obtain ⟨K, hK⟩ : ∃ K, kindOf s = K := ⟨_, rfl⟩
      rw [hK]
      have HK := Lib.hid hK
      clear hK
      go_upto_if 34 with fail
      go_cut [35] (fun _ wx => Keep w wx K m)
      case first =>
        cases m
        · go_wp2_with fail
          go_meet
          exact keep_set HR.out hb
        · go_wp2_with fail
          go_meet
          first | (with_reducible exact keep_set1 HR.out hb) | (with_reducible exact keep_set2 HR.out hb)
      case rest =>
        have K0 := Lib.hid hcut
        clear hcut hb HR c7 c8 f7 f8 hlt2
        go_wp2_with fail
        refine (mkRef _ _).mono ?_
        rintro e v1 ⟨rfl, q⟩
        have Kv1 := Lib.hid ((K0.out.alloc (.map #[] 0)).later q)
        have Mv1 : Hid (MapIs v1 wc.heap.size IsPair (fun _ => none) 0) := (MapIs.new wc IsPair).below q (by go_size)
        have gv1 : wc.heap.size < v1.heap.size := Mv1.out.lt
        clear q
        go_wp2_with fail
        refine (mkRef _ _).mono ?_
        rintro e v2 ⟨rfl, q⟩
        have Kv2 := Lib.hid (Kv1.out.later q)
        have Mv2 := Mv1.out.below q Mv1.out.lt
        clear q
        have lv2 : w.heap.size < wc.heap.size := K0.out.2.2.1
        go_wp2_with (refine wpList_ins rfl (.tmp 38) (.tmp 39) (.tmp 40) 94 rfl 38 38 keyR Try.underlying94 wc.heap.size 0 (fun _ => none) rfl Mv2 _ _ rfl rfl ⟨_, _, rfl⟩ ?_)
        intro v3 nv3 hM hT
        have Kv3 := Lib.hid (Kv2.out.turned hT lv2)
        clear hM hT Mv1 Mv2 Kv1 Kv2 K0 gv1
        go_wp2_with fail
        refine (mkRef _ _).mono ?_
        rintro e v4 ⟨rfl, q⟩
        have Kv4 := Lib.hid ((Kv3.out.alloc (.map #[] 0)).later q)
        have Mv4 : Hid (MapIs v4 v3.heap.size IsPair (fun _ => none) 0) := (MapIs.new v3 IsPair).below q (by go_size)
        have gv4 : v3.heap.size < v4.heap.size := Mv4.out.lt
        clear q
        go_wp2_with fail
        refine (mkRef _ _).mono ?_
        rintro e v5 ⟨rfl, q⟩
        have Kv5 := Lib.hid (Kv4.out.later q)
        have Mv5 := Mv4.out.below q Mv4.out.lt
        clear q
        have lv5 : w.heap.size < v3.heap.size := Kv3.out.2.2.1
        go_wp2_with (refine wpList_ins rfl (.tmp 42) (.tmp 43) (.tmp 44) 94 rfl 38 38 keyR Try.underlying94 v3.heap.size 0 (fun _ => none) rfl Mv5 _ _ rfl rfl ⟨_, _, rfl⟩ ?_)
        intro v6 nv6 hM hT
        have Kv6 := Lib.hid (Kv5.out.turned hT lv5)
        clear hM hT Mv4 Mv5 Kv4 Kv5 Kv3 gv4
        have lz : w.heap.size < v6.heap.size := Kv6.out.2.2.1
        go_wp2_with fail
        refine (mkRef _ _).mono ?_
        rintro e v7 ⟨rfl, q⟩
        have Kv7 := Lib.hid ((Kv6.out.alloc (.map #[] 0)).later q)
        have Mv7 : MapIs v7 v6.heap.size IsStr (fun _ => none) 0 := (MapIs.new v6 IsStr).below q (by go_size)
        clear q
        go_wp2_with (refine wpList_ins rfl (.tmp 46) _ (.tmp 48) 95 rfl 9 79 keyS Try.underlying95 v6.heap.size _ _ rfl Mv7 _ _ rfl rfl ⟨_, rfl⟩ ?_)
        intro v8 nv8 hM hT
        have Kv8 := Lib.hid (Kv7.out.turned hT lz)
        have Mv8 := Lib.hid hM
        clear hM hT Mv7 Kv7 Kv6
        go_wp2_with fail
        refine (mkRef _ _).mono ?_
        rintro e v9 ⟨rfl, q⟩
        have Kv9 := Lib.hid (Kv8.out.later q)
        have Mv9 := Mv8.out.below q Mv8.out.lt
        clear q
        go_wp2_with (refine wpList_ins rfl (.tmp 46) _ (.tmp 50) 95 rfl 9 79 keyS Try.underlying95 v6.heap.size _ _ rfl Mv9 _ _ rfl rfl ⟨_, rfl⟩ ?_)
        intro v10 nv10 hM hT
        have Kv10 := Lib.hid (Kv9.out.turned hT lz)
        have Mv10 := Lib.hid hM
        clear hM hT Mv9 Kv9 Kv8 Mv8
        go_wp2_with fail
        refine (mkRef _ _).mono ?_
        rintro e v11 ⟨rfl, q⟩
        have Kv11 := Lib.hid (Kv10.out.later q)
        have Mv11 := Mv10.out.below q Mv10.out.lt
        clear q
        go_wp2_with (refine wpList_ins rfl (.tmp 46) _ (.tmp 52) 95 rfl 9 79 keyS Try.underlying95 v6.heap.size _ _ rfl Mv11 _ _ rfl rfl ⟨_, rfl⟩ ?_)
        intro v12 nv12 hM hT
        have Kv12 := Lib.hid (Kv11.out.turned hT lz)
        have Mv12 := Lib.hid hM
        clear hM hT Mv11 Kv11 Kv10 Mv10
        go_wp2_with fail
        refine (mkRef _ _).mono ?_
        rintro e v13 ⟨rfl, q⟩
        have Kv13 := Lib.hid (Kv12.out.later q)
        have Mv13 := Mv12.out.below q Mv12.out.lt
        clear q
        go_wp2_with (refine wpList_ins rfl (.tmp 46) _ (.tmp 54) 95 rfl 9 79 keyS Try.underlying95 v6.heap.size _ _ rfl Mv13 _ _ rfl rfl ⟨_, rfl⟩ ?_)
        intro v14 nv14 hM hT
        have Kv14 := Lib.hid (Kv13.out.turned hT lz)
        have Mv14 := Lib.hid hM
        clear hM hT Mv13 Kv13 Kv12 Mv12
        go_wp2_with fail
        refine (newP _ _ _ _ _).mono ?_
        rintro e z ⟨p, rfl, p1, p2, q⟩
        have KZ := Kv14.out.later q
        have PZ : Hid (Pars z p s m) := by
          have e := HK.out
          refine ⟨w.heap.size, p1, p2, KZ.1, ?_⟩
          rw [e]
          exact KZ.2.1
        have BZ := KZ.2.2.2
        clear KZ p1 p2 q
        go_wp2_with fail
        go_ret
        exact ⟨_, rfl, PZ.out, BZ⟩

end Go.Proofs.Ytpehladamabedaa.fnExtractPrivateIndexTable
