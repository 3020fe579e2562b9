import Derived.Test.YteccbmopijdibaaFmtKit
import Derived.Stop.CallBack
import Derived.Stop.IfaceNil
import GoSem.ClaimData
import Derived.WalkSpells
import Derived.Test.YteccbmopijdibaaFmtRec
namespace Go.Proofs.YteccbmopijdibaaFmt
open Go.ChangeShapes Go.WideShapes Go.ChangeAt Go.RowKit
set_option linter.unusedVariables false
set_option maxRecDepth 100000
set_option maxHeartbeats 2000000

open Go.Extern.Stop Go.Stop Go.Extern
@[go_sem] theorem call9 (args : Array Value) (w : World) : (callFunc 9 args).run Tryf.prog w = ((FmtStop.sprintf #[9, 44] #[9] args).run Tryf.prog w).andThen fun v w' => .ok (.value v) w' :=
  run_callFunc_extern Tryf.func9 (by kernel_rfl) (by kernel_rfl) (by kernel_rfl) (by kernel_rfl) args w
@[go_sem] theorem guardF (name : String) (w : World) : (FmtStop.guard name).run Tryf.prog w = .ok () w := by kernel_rfl
@[go_sem] theorem fmAp : FmtStop.printed? ⟨#[37, 113, 32, 116, 97, 103]⟩ 1 = some [(0, 113, false)] := by kernel_rfl
@[go_sem] theorem fmAr (w : World) : (FmtDoors.printed ⟨#[37, 113, 32, 116, 97, 103]⟩ 1).run Tryf.prog w = .ok [(0, 113, false)] w := by kernel_rfl
def sh9 : List UInt8 := [12, 6, 0, 0, 0, 0, 0, 0, 0, 115, 116, 114, 105, 110, 103]
@[go_sem] theorem op9_113 (name : String) (x : ByteArray) (w : World) : (FmtStop.operand name false 113 false (.iface 9 (.string x))).run Tryf.prog w = .ok (sh9, FmtStop.pack x.data.toList) w := by kernel_rfl
/-- What fmt is asked. -/
def rdg (nm : List UInt8) : List (List UInt8) := [[37, 113, 32, 116, 97, 103], sh9, FmtStop.pack nm]
theorem text7 (F : Interp) (x : ByteArray) (w : World) (hF : F.answers w.tape) (hx : x.data.toList ≠ []) :
    Calls Tryf.prog 7 #[.string x] w fun e w' => e = .returned (.string (FmtStop.textOf (F "fmt.Sprintf" (rdg x.data.toList) 0))) ∧ Below w.heap.size w w' := by
  have hF' := answers_open hF
  have h0 : x.toList.isEmpty = false := by rw [ByteArray.toList_eq]; simpa using hx
  go_enter Tryf.func7, Tryf.ntmps7
  go_wp2
  go_ret
  exact ⟨rfl, below_drewN ((Below.refl _ _).alloc (Nat.le_refl _) _) 1⟩
theorem text7e (w : World) : Calls Tryf.prog 7 #[.string ⟨#[]⟩] w fun e w' => e = .returned (.string ⟨#[102, 114, 97, 103, 109, 101, 110, 116, 32, 116, 97, 103]⟩) ∧ Below w.heap.size w w' := by
  go_enter Tryf.func7, Tryf.ntmps7
  go_wp2
  go_ret
  exact ⟨rfl, Below.refl _ _⟩
theorem text5 (F : Interp) (x : ByteArray) (w : World) (hF : F.answers w.tape) (hx : x.data.toList ≠ []) :
    Calls Tryf.prog 5 #[.string x] w fun e w' => e = .returned (.string (FmtStop.textOf (F "fmt.Sprintf" (rdg x.data.toList) 0))) ∧ Below w.heap.size w w' := by
  go_enter Tryf.func5, Tryf.ntmps5
  go_wp2_with fail
  refine (text7 F x w hF hx).mono ?_
  rintro e w1 ⟨rfl, hb⟩
  go_wp2
  go_ret
  exact ⟨rfl, hb⟩
theorem text5e (w : World) : Calls Tryf.prog 5 #[.string ⟨#[]⟩] w fun e w' => e = .returned (.string ⟨#[102, 114, 97, 103, 109, 101, 110, 116, 32, 116, 97, 103]⟩) ∧ Below w.heap.size w w' := by
  go_enter Tryf.func5, Tryf.ntmps5
  go_wp2_with fail
  refine (text7e w).mono ?_
  rintro e w1 ⟨rfl, hb⟩
  go_wp2
  go_ret
  exact ⟨rfl, hb⟩
theorem zz4 (x : ByteArray) (W : World) (hx : (x.size : Int) ≤ 1048576) : Calls Tryf.prog 4 #[.string x] W fun e W' => e = .returned (.bool true) ∧ W = W' := by
  go_enter Tryf.func4, Tryf.ntmps4
  go_wp2
  go_ret
  exact ⟨rfl, rfl⟩
theorem zz4b (x : ByteArray) (W : World) (hx : ¬ (x.size : Int) ≤ 1048576) : Calls Tryf.prog 4 #[.string x] W fun e W' => e = .returned (.bool false) ∧ W = W' := by
  go_enter Tryf.func4, Tryf.ntmps4
  go_wp2
  go_ret
  exact ⟨rfl, rfl⟩
/-- One hexadecimal digit, its value under a name. -/
def Hex8 (n : Nat) (W : World) (e : Ending) (W' : World) : Prop := ∃ d : Nat, e = .returned (.int .u8 d) ∧ Hid (d = if n < 10 then 48 + n else 87 + n) ∧ W = W'
theorem hex8 (n : Nat) (h : n < 16) (W : World) : Calls Tryf.prog 8 #[.int .u8 n] W (Hex8 n W) := by
  by_cases h10 : n < 10
  · have h10' : (n : Int) < 10 := by omega
    go_enter Tryf.func8, Tryf.ntmps8
    go_wp2
    go_ret
    exact ⟨48 + n, by first | rfl | (congr 2; done) | (congr 2; go_num), Lib.hid (by rw [if_pos h10]), rfl⟩
  · have h10' : ¬ (n : Int) < 10 := by omega
    go_enter Tryf.func8, Tryf.ntmps8
    go_wp2
    go_ret
    exact ⟨87 + n, by first | rfl | (congr 2; done) | (congr 2; go_num), Lib.hid (by rw [if_neg h10]), rfl⟩

end Go.Proofs.YteccbmopijdibaaFmt
