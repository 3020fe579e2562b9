import Derived.Test.YtidicogmfpfibacFmtKit
import Derived.Test.YtidicogmfpfibacFmtLaE
import Derived.Stop.CallBack
import Derived.Stop.IfaceNil
import GoSem.ClaimData
import Derived.WalkSpells
namespace Go.Proofs.YtidicogmfpfibacFmt
open Go.ChangeShapes Go.WideShapes Go.ChangeAt Go.RowKit
set_option linter.unusedVariables false
set_option maxRecDepth 100000
set_option maxHeartbeats 2000000

open Go.Extern.Stop Go.Stop Go.Extern
@[go_sem] theorem call19 (args : Array Value) (w : World) : (callFunc 19 args).run Tryf.prog w = ((FmtStop.sprintf #[9, 319] #[9] args).run Tryf.prog w).andThen fun v w' => .ok (.value v) w' :=
  run_callFunc_extern Tryf.func19 (by kernel_rfl) (by kernel_rfl) (by kernel_rfl) (by kernel_rfl) args w
@[go_sem] theorem guardF (name : String) (w : World) : (FmtStop.guard name).run Tryf.prog w = .ok () w := by kernel_rfl
def fmA : ByteArray := ⟨#[67, 97, 110, 110, 111, 116, 32, 117, 115, 101, 32, 37, 113, 32, 119, 105, 116, 104, 32, 37, 113, 32, 119, 105, 116, 104, 111, 117, 116, 32, 112, 97, 114, 101, 110, 116, 104, 101, 115, 101, 115]⟩
@[go_sem] theorem fmAp : FmtStop.printed? fmA 2 = some [(0, 113, false), (1, 113, false)] := by kernel_rfl
@[go_sem] theorem fmAr (w : World) : (FmtDoors.printed fmA 2).run Tryf.prog w = .ok [(0, 113, false), (1, 113, false)] w := by kernel_rfl
def sh9 : List UInt8 := [12, 6, 0, 0, 0, 0, 0, 0, 0, 115, 116, 114, 105, 110, 103]
@[go_sem] theorem op9_113 (name : String) (x : ByteArray) (w : World) : (FmtStop.operand name false 113 false (.iface 9 (.string x))).run Tryf.prog w = .ok (sh9, FmtStop.pack x.data.toList) w := by kernel_rfl
@[go_sem] theorem op9_115 (name : String) (x : ByteArray) (w : World) : (FmtStop.operand name false 115 false (.iface 9 (.string x))).run Tryf.prog w = .ok (sh9, FmtStop.pack x.data.toList) w := by kernel_rfl
theorem spA (F : Interp) (g : Nat) (x y : ByteArray) (W : World) (hF : F.answers W.tape) (h0 : W.cell? ⟨g, 0, none⟩ = some (.iface 9 (.string x))) (h1 : W.cell? ⟨g, 1, none⟩ = some (.iface 9 (.string y))) :
    ∃ t, (callFunc 19 #[.string fmA, .slice (some ⟨g, 0, none⟩) 2 2]).run Tryf.prog W = .ok (.value (.string t)) W.drew := by
  have hF' := answers_open hF
  exact ⟨_, by simp [go_sem, h0, h1, hF']; rfl⟩
def fmB : ByteArray := ⟨#[69, 120, 112, 114, 101, 115, 115, 105, 111, 110, 115, 32, 111, 102, 32, 116, 104, 101, 32, 102, 111, 114, 109, 32, 34, 120, 32, 37, 115, 32, 121, 32, 37, 115, 32, 122, 34, 32, 97, 114, 101, 32, 110, 111, 116, 32, 97, 108, 108, 111, 119, 101, 100, 32, 105, 110, 32, 74, 97, 118, 97, 83, 99, 114, 105, 112, 116, 46, 32, 89, 111, 117, 32, 109, 117, 115, 116, 32, 100, 105, 115, 97, 109, 98, 105, 103, 117, 97, 116, 101, 32, 98, 101, 116, 119, 101, 101, 110, 32, 34, 40, 120, 32, 37, 115, 32, 121, 41, 32, 37, 115, 32, 122, 34, 32, 97, 110, 100, 32, 34, 120, 32, 37, 115, 32, 40, 121, 32, 37, 115, 32, 122, 41, 34, 32, 98, 121, 32, 97, 100, 100, 105, 110, 103, 32, 112, 97, 114, 101, 110, 116, 104, 101, 115, 101, 115, 46]⟩
@[go_sem] theorem fmBp : FmtStop.printed? fmB 6 = some [(0, 115, false), (1, 115, false), (2, 115, false), (3, 115, false), (4, 115, false), (5, 115, false)] := by kernel_rfl
theorem spB (F : Interp) (g : Nat) (x y : ByteArray) (W : World) (hF : F.answers W.tape) (h0 : W.cell? ⟨g, 0, none⟩ = some (.iface 9 (.string y))) (h1 : W.cell? ⟨g, 1, none⟩ = some (.iface 9 (.string x))) (h2 : W.cell? ⟨g, 2, none⟩ = some (.iface 9 (.string y))) (h3 : W.cell? ⟨g, 3, none⟩ = some (.iface 9 (.string x))) (h4 : W.cell? ⟨g, 4, none⟩ = some (.iface 9 (.string y))) (h5 : W.cell? ⟨g, 5, none⟩ = some (.iface 9 (.string x))) :
    ∃ t, (callFunc 19 #[.string fmB, .slice (some ⟨g, 0, none⟩) 6 6]).run Tryf.prog W = .ok (.value (.string t)) W.drew := by
  have hF' := answers_open hF
  exact ⟨_, by simp [go_sem, h0, h1, h2, h3, h4, h5, hF']; rfl⟩

end Go.Proofs.YtidicogmfpfibacFmt
