import Derived.Test.YtkncfhhiookgdabGreatFmtKit
import Derived.Test.YtkncfhhiookgdabGreatFmtIuD
import Derived.Stop.CallBack
import Derived.Stop.IfaceNil
import GoSem.ClaimData
import Derived.WalkSpells
namespace Go.Proofs.YtkncfhhiookgdabGreatFmt
open Go.ChangeShapes Go.WideShapes Go.ChangeAt Go.RowKit
set_option linter.unusedVariables false
set_option maxRecDepth 100000
set_option maxHeartbeats 2000000

open Go.Extern.Stop Go.Stop Go.Extern
@[go_sem] theorem call30 (args : Array Value) (w : World) : (callFunc 30 args).run Tryz.prog w = ((FmtStop.sprintf #[9, 331] #[9] args).run Tryz.prog w).andThen fun v w' => .ok (.value v) w' :=
  run_callFunc_extern Tryz.func30 (by kernel_rfl) (by kernel_rfl) (by kernel_rfl) (by kernel_rfl) args w
@[go_sem] theorem guardF (name : String) (w : World) : (FmtStop.guard name).run Tryz.prog w = .ok () w := by kernel_rfl
def fmC : ByteArray := ⟨#[84, 104, 101, 32, 114, 101, 103, 117, 108, 97, 114, 32, 101, 120, 112, 114, 101, 115, 115, 105, 111, 110, 32, 102, 108, 97, 103, 32, 34, 37, 99, 34, 32, 105, 115, 32, 110, 111, 116, 32, 97, 118, 97, 105, 108, 97, 98, 108, 101]⟩
def fmS : ByteArray := ⟨#[37, 115, 32, 105, 110, 32, 37, 115]⟩
def whereT : ByteArray := ⟨#[116, 104, 101, 32, 99, 111, 110, 102, 105, 103, 117, 114, 101, 100, 32, 116, 97, 114, 103, 101, 116, 32, 101, 110, 118, 105, 114, 111, 110, 109, 101, 110, 116]⟩
@[go_sem] theorem fmCp : FmtStop.printed? fmC 1 = some [(0, 99, false)] := by kernel_rfl
@[go_sem] theorem fmSp : FmtStop.printed? fmS 2 = some [(0, 115, false), (1, 115, false)] := by kernel_rfl
def sh9 : List UInt8 := [12, 6, 0, 0, 0, 0, 0, 0, 0, 115, 116, 114, 105, 110, 103]
def sh21 : List UInt8 := [4, 5, 0, 0, 0, 0, 0, 0, 0, 105, 110, 116, 51, 50]
@[go_sem] theorem op9_115 (name : String) (x : ByteArray) (w : World) : (FmtStop.operand name false 115 false (.iface 9 (.string x))).run Tryz.prog w = .ok (sh9, FmtStop.pack x.data.toList) w := by kernel_rfl
theorem op21_99 (name : String) (c : Int) (w : World) : ∃ l, (FmtStop.operand name false 99 false (.iface 21 (.int .i32 c))).run Tryz.prog w = .ok (sh21, l) w := ⟨Go.Extern.Stop.digits 8 (c % 2 ^ 64).toNat, by kernel_rfl⟩
def dg (c : Int) : List UInt8 := Go.Extern.Stop.digits 8 (c % 2 ^ 64).toNat
@[go_sem] theorem op21_99' (name : String) (c : Int) (w : World) : (FmtStop.operand name false 99 false (.iface 21 (.int .i32 c))).run Tryz.prog w = .ok (sh21, dg c) w := by kernel_rfl
@[go_sem] theorem fmCp' : FmtStop.printed? ⟨#[84, 104, 101, 32, 114, 101, 103, 117, 108, 97, 114, 32, 101, 120, 112, 114, 101, 115, 115, 105, 111, 110, 32, 102, 108, 97, 103, 32, 34, 37, 99, 34, 32, 105, 115, 32, 110, 111, 116, 32, 97, 118, 97, 105, 108, 97, 98, 108, 101]⟩ 1 = some [(0, 99, false)] := by kernel_rfl
theorem spC (F : Interp) (g : Nat) (c : Int) (W : World) (hF : F.answers W.tape) (h0 : W.cell? ⟨g, 0, none⟩ = some (.iface 21 (.int .i32 c))) :
    ∃ t, (callFunc 30 #[.string fmC, .slice (some ⟨g, 0, none⟩) 1 1]).run Tryz.prog W = .ok (.value (.string t)) W.drew := by
  have hF' := answers_open hF
  obtain ⟨l, hl⟩ := op21_99 "fmt.Sprintf" c W
  exact ⟨_, by simp [go_sem, h0, hF', hl]; rfl⟩
theorem spS (F : Interp) (g : Nat) (x y : ByteArray) (W : World) (hF : F.answers W.tape) (h0 : W.cell? ⟨g, 0, none⟩ = some (.iface 9 (.string x))) (h1 : W.cell? ⟨g, 1, none⟩ = some (.iface 9 (.string y))) :
    ∃ t, (callFunc 30 #[.string fmS, .slice (some ⟨g, 0, none⟩) 2 2]).run Tryz.prog W = .ok (.value (.string t)) W.drew := by
  have hF' := answers_open hF
  exact ⟨_, by simp [go_sem, h0, h1, hF']; rfl⟩
theorem where31 (W : World) : Calls Tryz.prog 31 #[.string ⟨#[]⟩, .int .u64 0] W fun e W' => e = .returned (.string whereT) ∧ W = W' := by
  go_enter Tryz.func31, Tryz.ntmps31
  go_wp2_with fail
  go_ret
  exact ⟨rfl, rfl⟩

end Go.Proofs.YtkncfhhiookgdabGreatFmt
