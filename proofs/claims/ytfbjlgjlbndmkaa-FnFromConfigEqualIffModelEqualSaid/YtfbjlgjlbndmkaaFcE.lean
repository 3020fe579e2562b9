import Derived.Test.YtfbjlgjlbndmkaaKit
import Derived.Test.YtfbjlgjlbndmkaaScript
namespace Go.Proofs.Ytfbjlgjlbndmkaa
open Go.ChangeShapes Go.WideShapes Go.ChangeAt Go.RowKit
set_option linter.unusedVariables false
set_option maxRecDepth 100000
set_option maxHeartbeats 2000000

noncomputable def rg13 : List Oper := ((Try.f13.body.map regOf).getD []).getD 1 []
theorem g13_0 : ((List.range 10).all fun i => stepOk rg13.toArray 119 (0 + i)) = true := by kernel_rfl
theorem g13_1 : ((List.range 10).all fun i => stepOk rg13.toArray 119 (10 + i)) = true := by kernel_rfl
theorem g13_2 : ((List.range 10).all fun i => stepOk rg13.toArray 119 (20 + i)) = true := by kernel_rfl
theorem g13_3 : ((List.range 10).all fun i => stepOk rg13.toArray 119 (30 + i)) = true := by kernel_rfl
theorem g13_4 : ((List.range 10).all fun i => stepOk rg13.toArray 119 (40 + i)) = true := by kernel_rfl
theorem g13_5 : ((List.range 10).all fun i => stepOk rg13.toArray 119 (50 + i)) = true := by kernel_rfl
theorem g13_6 : ((List.range 10).all fun i => stepOk rg13.toArray 119 (60 + i)) = true := by kernel_rfl
theorem g13_7 : ((List.range 10).all fun i => stepOk rg13.toArray 119 (70 + i)) = true := by kernel_rfl
theorem g13_8 : ((List.range 10).all fun i => stepOk rg13.toArray 119 (80 + i)) = true := by kernel_rfl
theorem g13_9 : ((List.range 10).all fun i => stepOk rg13.toArray 119 (90 + i)) = true := by kernel_rfl
theorem g13_10 : ((List.range 10).all fun i => stepOk rg13.toArray 119 (100 + i)) = true := by kernel_rfl
theorem g13_11 : ((List.range 8).all fun i => stepOk rg13.toArray 119 (110 + i)) = true := by kernel_rfl
theorem lex13 : Region.lexTailB .any rg13.toArray 118 = true := lexTail_of (N := 119) (by kernel_rfl) (by decide) (by kernel_rfl) (by kernel_rfl) (by kernel_rfl) (fun j hj => by
  by_cases h0 : j < 10; · exact chunk g13_0 j (by omega) (by omega)
  by_cases h0 : j < 20; · exact chunk g13_1 j (by omega) (by omega)
  by_cases h0 : j < 30; · exact chunk g13_2 j (by omega) (by omega)
  by_cases h0 : j < 40; · exact chunk g13_3 j (by omega) (by omega)
  by_cases h0 : j < 50; · exact chunk g13_4 j (by omega) (by omega)
  by_cases h0 : j < 60; · exact chunk g13_5 j (by omega) (by omega)
  by_cases h0 : j < 70; · exact chunk g13_6 j (by omega) (by omega)
  by_cases h0 : j < 80; · exact chunk g13_7 j (by omega) (by omega)
  by_cases h0 : j < 90; · exact chunk g13_8 j (by omega) (by omega)
  by_cases h0 : j < 100; · exact chunk g13_9 j (by omega) (by omega)
  by_cases h0 : j < 110; · exact chunk g13_10 j (by omega) (by omega)
  exact chunk g13_11 j (by omega) (by omega)) (by kernel_rfl)

end Go.Proofs.Ytfbjlgjlbndmkaa
