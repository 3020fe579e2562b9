import Derived.Test.YtidicogmfpfibabFmtKit
import Derived.Test.YtidicogmfpfibabFmtMaB
import Derived.Shelf.Lays
import Derived.Shelf.Unicode.DecodeAny
namespace Go.Proofs.YtidicogmfpfibabFmt
open Go.ChangeShapes Go.WideShapes Go.ChangeAt Go.RowKit
set_option linter.unusedVariables false
set_option maxRecDepth 100000
set_option maxHeartbeats 2000000

open Go.Shelf
def lays197_ren : Go.Shelf.Ren := ⟨fun | 197 => 55 | 260 => 57 | n => n, fun | 9 => 9 | 21 => 21 | 3 => 3 | 4 => 4 | 5 => 5 | 105 => 216 | 119 => 219 | 0 => 0 | 46 => 200 | 139 => 222 | 138 => 221 | n => n, fun | 3 => 0 | 4 => 1 | n => n⟩
theorem lays197 : Go.Proofs.Lays.n197 Tryf.prog lays197_ren where
  mixed := by kernel_rfl
  f197 := Tryf.func55.trans (congrArg some (by kernel_rfl))
  f260 := Tryf.func57.trans (congrArg some (by kernel_rfl))
  t0 := Tryf.underlying0
  a0 := Tryf.isAgg0
  z0 := Tryf.sizeOf0
  v0 := Tryf.zeroValue0
  t3 := Tryf.underlying3
  a3 := Tryf.isAgg3
  z3 := Tryf.sizeOf3
  v3 := Tryf.zeroValue3
  t4 := Tryf.underlying4
  a4 := Tryf.isAgg4
  z4 := Tryf.sizeOf4
  v4 := Tryf.zeroValue4
  t5 := Tryf.underlying5
  a5 := Tryf.isAgg5
  z5 := Tryf.sizeOf5
  v5 := Tryf.zeroValue5
  t9 := Tryf.underlying9
  a9 := Tryf.isAgg9
  z9 := Tryf.sizeOf9
  v9 := Tryf.zeroValue9
  t21 := Tryf.underlying21
  a21 := Tryf.isAgg21
  z21 := Tryf.sizeOf21
  v21 := Tryf.zeroValue21
  t46 := Tryf.underlying200
  a46 := Tryf.isAgg200
  z46 := Tryf.sizeOf200
  v46 := Tryf.zeroValue200
  t105 := Tryf.underlying216
  a105 := Tryf.isAgg216
  z105 := Tryf.sizeOf216
  v105 := Tryf.zeroValue216
  t119 := Tryf.underlying219
  a119 := Tryf.isAgg219
  z119 := Tryf.sizeOf219
  t138 := Tryf.underlying221
  a138 := Tryf.isAgg221
  z138 := Tryf.sizeOf221
  v138 := Tryf.zeroValue221
  t139 := Tryf.underlying222
  a139 := Tryf.isAgg222
  z139 := Tryf.sizeOf222
  v139 := Tryf.zeroValue222
  g3 := by kernel_rfl
  g4 := by kernel_rfl
/-- The library's decoder, by the shelf's contract. -/
theorem decS : DecS := fun s W hT => Any.utf8_DecodeRuneInString lays197 s W hT

end Go.Proofs.YtidicogmfpfibabFmt
