import Derived.Test.YtidicogmfpfibaaFmtKit
import Derived.Test.YtidicogmfpfibaaFmtIsN
namespace Go.Proofs.YtidicogmfpfibaaFmt.fnIsStrictModeAgreesWithStrictModeReport
open Go.ChangeShapes Go.WideShapes Go.ChangeAt Go.RowKit
set_option linter.unusedVariables false
set_option maxRecDepth 100000
set_option maxHeartbeats 2000000

open Go.MuLone Go.Extern.Stop Go.Stop Go.Extern
def Walk (w : World) (e : Ending) (w' : World) : Prop := e = .returned (.bool true) ∧ Below w.heap.size w w'
set_option maxHeartbeats 4000000 in
theorem walkS (F : Interp) (kd fm ft : Int) (x : ByteArray) (w : World) (hF : F.answers w.tape) (hl : ¬ 1048576 < (x.size : Int)) (hk : kd = 1 ∨ kd = 2 ∨ kd = 3 ∨ kd = 4 ∨ kd = 5) (hfm : fm = 0 ∨ fm = 1 ∨ fm = 2) : Calls Tryf.prog 3 #[.int .u8 kd, .int .u8 fm, .int .u8 ft, .string x] w (Walk w) := by
  have HF := Lib.hid hF
  have hk6 : kd = 0 ∨ kd = 1 ∨ kd = 2 ∨ kd = 3 ∨ kd = 4 ∨ kd = 5 := .inr hk
  have hf4 : fm = 0 ∨ fm = 1 ∨ fm = 2 ∨ fm = 3 := by rcases hfm with h | h | h <;> simp [h]
  have hf3 : (fm == 3) = false := by rcases hfm with rfl | rfl | rfl <;> rfl
  have hkd : (kd != 0) = true := by rcases hk with rfl | rfl | rfl | rfl | rfl <;> rfl
  have HK := Lib.hid (And.intro hk (And.intro hk6 hf4))
  clear hF hk hk6 hf4 hfm
  go_enter Tryf.func3, Tryf.ntmps3
  go_wp2_with fail
  refine (zz4 kd fm ft x w).mono ?_
  rintro e0 w0 ⟨b, rfl, rfl⟩
  cases b with
  | false =>
    go_wp2_with fail
    go_ret
    exact ⟨rfl, Below.refl _ _⟩
  | true =>
    go_wp2_with fail
    refine (kind5t kd HK.out.2.1 w).mono ?_
    rintro e1 w1 ⟨rfl, rfl⟩
    go_wp2_with fail
    refine (form6t fm HK.out.2.2 w1).mono ?_
    rintro e2 w2 ⟨rfl, rfl⟩
    go_wp2_with fail
    refine (msgs7s F ft kd fm HK.out.1 x w2 HF.out).mono ?_
    rintro e3 w3 ⟨g, cap, rfl, c6, b3⟩
    have H3 := Lib.hid (And.intro c6 b3)
    clear c6 b3
    go_wp2_with fail
    refine (strict8 kd fm w3).mono ?_
    rintro e4 w4 ⟨rfl, b4⟩
    have q6 := later H3.out.1 b4
    have H4 := Lib.hid (H3.out.2.trans (b4.mono H3.out.2.size))
    clear b4
    go_wp2_with fail
    go_ret
    exact ⟨rfl, H4.out⟩
set_option maxHeartbeats 4000000 in
theorem walkN (F : Interp) (fm ft : Int) (x : ByteArray) (w : World) (hF : F.answers w.tape) (hl : ¬ 1048576 < (x.size : Int)) (hfm : fm = 0 ∨ fm = 1 ∨ fm = 2) : Calls Tryf.prog 3 #[.int .u8 0, .int .u8 fm, .int .u8 ft, .string x] w (Walk w) := by
  have HF := Lib.hid hF
  have hf4 : fm = 0 ∨ fm = 1 ∨ fm = 2 ∨ fm = 3 := by rcases hfm with h | h | h <;> simp [h]
  have hf3 : (fm == 3) = false := by rcases hfm with rfl | rfl | rfl <;> rfl
  have hfn : fm ≠ 3 := by rcases hfm with rfl | rfl | rfl <;> decide
  have HK := Lib.hid (And.intro hfn hf4)
  clear hF hf4 hfm hfn
  go_enter Tryf.func3, Tryf.ntmps3
  go_wp2_with fail
  refine (zz4 0 fm ft x w).mono ?_
  rintro e0 w0 ⟨b, rfl, rfl⟩
  cases b with
  | false =>
    go_wp2_with fail
    go_ret
    exact ⟨rfl, Below.refl _ _⟩
  | true =>
    go_wp2_with fail
    refine (kind5t 0 (.inl rfl) w).mono ?_
    rintro e1 w1 ⟨rfl, rfl⟩
    go_wp2_with fail
    refine (form6t fm HK.out.2 w1).mono ?_
    rintro e2 w2 ⟨rfl, rfl⟩
    go_wp2_with fail
    refine (msgs7n F ft fm HK.out.1 x w2 HF.out).mono ?_
    rintro e3 w3 ⟨rfl, b3⟩
    have H3 := Lib.hid b3
    clear b3
    go_wp2_with fail
    refine (strict8 0 fm w3).mono ?_
    rintro e4 w4 ⟨rfl, b4⟩
    have H4 := Lib.hid (H3.out.trans (b4.mono H3.out.size))
    clear b4
    go_wp2_with fail
    go_ret
    exact ⟨rfl, H4.out⟩
set_option maxHeartbeats 4000000 in
theorem walkK (kd fm ft : Int) (x : ByteArray) (w : World) (hl : ¬ 1048576 < (x.size : Int)) (h0 : kd ≠ 0) (h1 : kd ≠ 1) (h2 : kd ≠ 2) (h3 : kd ≠ 3) (h4 : kd ≠ 4) (h5 : kd ≠ 5) : Calls Tryf.prog 3 #[.int .u8 kd, .int .u8 fm, .int .u8 ft, .string x] w (Walk w) := by
  have HK := Lib.hid (And.intro h0 (And.intro h1 (And.intro h2 (And.intro h3 (And.intro h4 h5)))))
  clear h0 h1 h2 h3 h4 h5
  go_enter Tryf.func3, Tryf.ntmps3
  go_wp2_with fail
  refine (zz4 kd fm ft x w).mono ?_
  rintro e0 w0 ⟨b, rfl, rfl⟩
  cases b with
  | false =>
    go_wp2_with fail
    go_ret
    exact ⟨rfl, Below.refl _ _⟩
  | true =>
    go_wp2_with fail
    refine (kind5f kd HK.out.1 HK.out.2.1 HK.out.2.2.1 HK.out.2.2.2.1 HK.out.2.2.2.2.1 HK.out.2.2.2.2.2 w).mono ?_
    rintro e1 w1 ⟨rfl, rfl⟩
    go_wp2_with fail
    go_ret
    exact ⟨rfl, Below.refl _ _⟩
set_option maxHeartbeats 4000000 in
theorem walkF (kd fm ft : Int) (x : ByteArray) (w : World) (hl : ¬ 1048576 < (x.size : Int)) (hk6 : kd = 0 ∨ kd = 1 ∨ kd = 2 ∨ kd = 3 ∨ kd = 4 ∨ kd = 5) (h0 : fm ≠ 0) (h1 : fm ≠ 1) (h2 : fm ≠ 2) : Calls Tryf.prog 3 #[.int .u8 kd, .int .u8 fm, .int .u8 ft, .string x] w (Walk w) := by
  have HK := Lib.hid (And.intro h0 (And.intro h1 (And.intro h2 hk6)))
  clear h0 h1 h2 hk6
  by_cases h3 : fm = 3
  · subst h3
    go_enter Tryf.func3, Tryf.ntmps3
    go_wp2_with fail
    refine (zz4 kd 3 ft x w).mono ?_
    rintro e0 w0 ⟨b, rfl, rfl⟩
    cases b with
    | false =>
      go_wp2_with fail
      go_ret
      exact ⟨rfl, Below.refl _ _⟩
    | true =>
      go_wp2_with fail
      refine (kind5t kd HK.out.2.2.2 w).mono ?_
      rintro e1 w1 ⟨rfl, rfl⟩
      go_wp2_with fail
      refine (form6t 3 (.inr (.inr (.inr rfl))) w1).mono ?_
      rintro e2 w2 ⟨rfl, rfl⟩
      go_wp2_with fail
      go_ret
      exact ⟨rfl, Below.refl _ _⟩
  · have H3 := Lib.hid h3
    have hf3 : (fm == 3) = false := beq_false_of_ne h3
    clear h3
    go_enter Tryf.func3, Tryf.ntmps3
    go_wp2_with fail
    refine (zz4 kd fm ft x w).mono ?_
    rintro e0 w0 ⟨b, rfl, rfl⟩
    cases b with
    | false =>
      go_wp2_with fail
      go_ret
      exact ⟨rfl, Below.refl _ _⟩
    | true =>
      go_wp2_with fail
      refine (kind5t kd HK.out.2.2.2 w).mono ?_
      rintro e1 w1 ⟨rfl, rfl⟩
      go_wp2_with fail
      refine (form6f fm HK.out.1 HK.out.2.1 HK.out.2.2.1 H3.out w1).mono ?_
      rintro e2 w2 ⟨rfl, rfl⟩
      go_wp2_with fail
      go_ret
      exact ⟨rfl, Below.refl _ _⟩
theorem walkL (kd fm ft : Int) (x : ByteArray) (w : World) (hl : 1048576 < (x.size : Int)) : Calls Tryf.prog 3 #[.int .u8 kd, .int .u8 fm, .int .u8 ft, .string x] w (Walk w) := by
  go_enter Tryf.func3, Tryf.ntmps3
  go_wp2_with fail
  refine (zz4 kd fm ft x w).mono ?_
  rintro e0 w0 ⟨b, rfl, rfl⟩
  cases b with
  | false =>
    go_wp2_with fail
    go_ret
    exact ⟨rfl, Below.refl _ _⟩
  | true =>
    go_wp2_with fail
    go_ret
    exact ⟨rfl, Below.refl _ _⟩
theorem walk (F : Interp) (kd fm ft : Int) (x : ByteArray) (w : World) (hF : F.answers w.tape) : Calls Tryf.prog 3 #[.int .u8 kd, .int .u8 fm, .int .u8 ft, .string x] w (Walk w) := by
  by_cases hl : 1048576 < (x.size : Int)
  · exact walkL kd fm ft x w hl
  by_cases hk6 : kd = 0 ∨ kd = 1 ∨ kd = 2 ∨ kd = 3 ∨ kd = 4 ∨ kd = 5
  · by_cases hfm : fm = 0 ∨ fm = 1 ∨ fm = 2
    · rcases hk6 with rfl | hk
      · exact walkN F fm ft x w hF hl hfm
      · exact walkS F kd fm ft x w hF hl hk hfm
    · exact walkF kd fm ft x w hl hk6 (fun h => hfm (.inl h)) (fun h => hfm (.inr (.inl h))) (fun h => hfm (.inr (.inr h)))
  · exact walkK kd fm ft x w hl (fun h => hk6 (.inl h)) (fun h => hk6 (.inr (.inl h))) (fun h => hk6 (.inr (.inr (.inl h)))) (fun h => hk6 (.inr (.inr (.inr (.inl h))))) (fun h => hk6 (.inr (.inr (.inr (.inr (.inl h)))))) (fun h => hk6 (.inr (.inr (.inr (.inr (.inr h))))))

end Go.Proofs.YtidicogmfpfibaaFmt.fnIsStrictModeAgreesWithStrictModeReport
