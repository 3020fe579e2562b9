import Derived.Test.YtpbajadomgdajaaDoorKit
import Derived.Shelf.Lays
import Derived.Shelf.Strings.LastIndex
import Derived.Shelf.Strings.Runes
import Derived.Shelf.Strings.AsciiSet
import Derived.Shelf.Unicode.DecodeLast
namespace Go.Proofs.YtpbajadomgdajaaDoor
open Go.ChangeShapes Go.WideShapes Go.ChangeAt Go.RowKit
set_option linter.unusedVariables false
set_option maxRecDepth 100000
set_option maxHeartbeats 2000000

open Go.Shelf
def lays149_ren : Go.Shelf.Ren := ⟨fun | 149 => 14 | 222 => 20 | n => n, fun | 9 => 9 | 5 => 5 | 3 => 3 | 4 => 4 | n => n, fun | n => n⟩
theorem lays149 : Go.Proofs.Lays.n149 Tryd.prog lays149_ren where
  mixed := by kernel_rfl
  f149 := Tryd.func14.trans (congrArg some (by kernel_rfl))
  f222 := Tryd.func20.trans (congrArg some (by kernel_rfl))
  t3 := Tryd.underlying3
  a3 := Tryd.isAgg3
  z3 := Tryd.sizeOf3
  v3 := Tryd.zeroValue3
  t4 := Tryd.underlying4
  a4 := Tryd.isAgg4
  z4 := Tryd.sizeOf4
  v4 := Tryd.zeroValue4
  t5 := Tryd.underlying5
  a5 := Tryd.isAgg5
  z5 := Tryd.sizeOf5
  v5 := Tryd.zeroValue5
  t9 := Tryd.underlying9
  a9 := Tryd.isAgg9
  z9 := Tryd.sizeOf9
  v9 := Tryd.zeroValue9
def lays152_ren : Go.Shelf.Ren := ⟨fun | 152 => 15 | 137 => 21 | 119 => 22 | 224 => 23 | 225 => 24 | 217 => 27 | 266 => 29 | n => n, fun | 9 => 9 | 21 => 21 | 3 => 3 | 4 => 4 | 5 => 5 | 0 => 0 | 46 => 40 | n => n, fun | n => n⟩
theorem lays152 : Go.Proofs.Lays.n152 Tryd.prog lays152_ren where
  mixed := by kernel_rfl
  f119 := Tryd.func22.trans (congrArg some (by kernel_rfl))
  f137 := Tryd.func21.trans (congrArg some (by kernel_rfl))
  f152 := Tryd.func15.trans (congrArg some (by kernel_rfl))
  f217 := Tryd.func27.trans (congrArg some (by kernel_rfl))
  f224 := Tryd.func23.trans (congrArg some (by kernel_rfl))
  f225 := Tryd.func24.trans (congrArg some (by kernel_rfl))
  f266 := Tryd.func29.trans (congrArg some (by kernel_rfl))
  t0 := Tryd.underlying0
  a0 := Tryd.isAgg0
  z0 := Tryd.sizeOf0
  v0 := Tryd.zeroValue0
  t3 := Tryd.underlying3
  a3 := Tryd.isAgg3
  z3 := Tryd.sizeOf3
  v3 := Tryd.zeroValue3
  t4 := Tryd.underlying4
  a4 := Tryd.isAgg4
  z4 := Tryd.sizeOf4
  v4 := Tryd.zeroValue4
  t5 := Tryd.underlying5
  a5 := Tryd.isAgg5
  z5 := Tryd.sizeOf5
  v5 := Tryd.zeroValue5
  t9 := Tryd.underlying9
  a9 := Tryd.isAgg9
  z9 := Tryd.sizeOf9
  v9 := Tryd.zeroValue9
  t21 := Tryd.underlying21
  a21 := Tryd.isAgg21
  z21 := Tryd.sizeOf21
  v21 := Tryd.zeroValue21
  t46 := Tryd.underlying40
  a46 := Tryd.isAgg40
  z46 := Tryd.sizeOf40
  v46 := Tryd.zeroValue40
def lays227_ren : Go.Shelf.Ren := ⟨fun | 227 => 17 | n => n, fun | 9 => 9 | 116 => 33 | 4 => 4 | 0 => 0 | 3 => 3 | 5 => 5 | n => n, fun | n => n⟩
theorem lays227 : Go.Proofs.Lays.n227 Tryd.prog lays227_ren where
  mixed := by kernel_rfl
  f227 := Tryd.func17.trans (congrArg some (by kernel_rfl))
  t0 := Tryd.underlying0
  a0 := Tryd.isAgg0
  z0 := Tryd.sizeOf0
  v0 := Tryd.zeroValue0
  t3 := Tryd.underlying3
  a3 := Tryd.isAgg3
  z3 := Tryd.sizeOf3
  v3 := Tryd.zeroValue3
  t4 := Tryd.underlying4
  a4 := Tryd.isAgg4
  z4 := Tryd.sizeOf4
  v4 := Tryd.zeroValue4
  t5 := Tryd.underlying5
  a5 := Tryd.isAgg5
  z5 := Tryd.sizeOf5
  v5 := Tryd.zeroValue5
  t9 := Tryd.underlying9
  a9 := Tryd.isAgg9
  z9 := Tryd.sizeOf9
  v9 := Tryd.zeroValue9
  t116 := Tryd.underlying33
  a116 := Tryd.isAgg33
  z116 := Tryd.sizeOf33
def lays228_ren : Go.Shelf.Ren := ⟨fun | 228 => 18 | n => n, fun | 124 => 41 | 5 => 5 | 4 => 4 | 0 => 0 | 116 => 33 | n => n, fun | n => n⟩
theorem lays228 : Go.Proofs.Lays.n228 Tryd.prog lays228_ren where
  mixed := by kernel_rfl
  f228 := Tryd.func18.trans (congrArg some (by kernel_rfl))
  t0 := Tryd.underlying0
  a0 := Tryd.isAgg0
  z0 := Tryd.sizeOf0
  v0 := Tryd.zeroValue0
  t4 := Tryd.underlying4
  a4 := Tryd.isAgg4
  z4 := Tryd.sizeOf4
  v4 := Tryd.zeroValue4
  t5 := Tryd.underlying5
  a5 := Tryd.isAgg5
  z5 := Tryd.sizeOf5
  v5 := Tryd.zeroValue5
  t116 := Tryd.underlying33
  a116 := Tryd.isAgg33
  z116 := Tryd.sizeOf33
  t124 := Tryd.underlying41
  a124 := Tryd.isAgg41
  z124 := Tryd.sizeOf41
  v124 := Tryd.zeroValue41
def lays271_ren : Go.Shelf.Ren := ⟨fun | 271 => 19 | 120 => 25 | 197 => 26 | 260 => 28 | n => n, fun | 9 => 9 | 21 => 21 | 3 => 3 | 4 => 4 | 5 => 5 | 105 => 36 | 119 => 42 | 0 => 0 | 46 => 40 | 139 => 45 | 138 => 44 | n => n, fun | 3 => 1 | 4 => 2 | n => n⟩
theorem lays271 : Go.Proofs.Lays.n271 Tryd.prog lays271_ren where
  mixed := by kernel_rfl
  f120 := Tryd.func25.trans (congrArg some (by kernel_rfl))
  f197 := Tryd.func26.trans (congrArg some (by kernel_rfl))
  f260 := Tryd.func28.trans (congrArg some (by kernel_rfl))
  f271 := Tryd.func19.trans (congrArg some (by kernel_rfl))
  t0 := Tryd.underlying0
  a0 := Tryd.isAgg0
  z0 := Tryd.sizeOf0
  v0 := Tryd.zeroValue0
  t3 := Tryd.underlying3
  a3 := Tryd.isAgg3
  z3 := Tryd.sizeOf3
  v3 := Tryd.zeroValue3
  t4 := Tryd.underlying4
  a4 := Tryd.isAgg4
  z4 := Tryd.sizeOf4
  v4 := Tryd.zeroValue4
  t5 := Tryd.underlying5
  a5 := Tryd.isAgg5
  z5 := Tryd.sizeOf5
  v5 := Tryd.zeroValue5
  t9 := Tryd.underlying9
  a9 := Tryd.isAgg9
  z9 := Tryd.sizeOf9
  v9 := Tryd.zeroValue9
  t21 := Tryd.underlying21
  a21 := Tryd.isAgg21
  z21 := Tryd.sizeOf21
  v21 := Tryd.zeroValue21
  t46 := Tryd.underlying40
  a46 := Tryd.isAgg40
  z46 := Tryd.sizeOf40
  v46 := Tryd.zeroValue40
  t105 := Tryd.underlying36
  a105 := Tryd.isAgg36
  z105 := Tryd.sizeOf36
  v105 := Tryd.zeroValue36
  t119 := Tryd.underlying42
  a119 := Tryd.isAgg42
  z119 := Tryd.sizeOf42
  t138 := Tryd.underlying44
  a138 := Tryd.isAgg44
  z138 := Tryd.sizeOf44
  v138 := Tryd.zeroValue44
  t139 := Tryd.underlying45
  a139 := Tryd.isAgg45
  z139 := Tryd.sizeOf45
  v139 := Tryd.zeroValue45
  g3 := by kernel_rfl
  g4 := by kernel_rfl

end Go.Proofs.YtpbajadomgdajaaDoor
