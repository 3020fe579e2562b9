import Derived.Test.YtdikaidllmhbhaaKit
import Derived.Test.YtdikaidllmhbhaaSkD
import Derived.Shelf.Sort.Plain
namespace Go.Proofs.Ytdikaidllmhbhaa.fnSortedKeysOfMapIsTheSortedKeySet
open Go.ChangeShapes Go.WideShapes Go.ChangeAt Go.RowKit Go.Maps Go.Sort
set_option linter.unusedVariables false

/-- The library's sort lies in this program under these numbers. -/
def lays192_ren : Go.Shelf.Ren := ⟨fun | 192 => 10 | 190 => 11 | 125 => 13 | 258 => 12 | 128 => 23 | 129 => 24 | 302 => 14 | 303 => 15 | 304 => 16 | 305 => 17 | 306 => 18 | 307 => 19 | 308 => 20 | 309 => 21 | 310 => 22 | 333 => 25 | 329 => 26 | 330 => 27 | 334 => 28 | 335 => 29 | 336 => 30 | 344 => 31 | n => n, fun | 31 => 22 | 0 => 0 | 9 => 9 | 3 => 3 | 46 => 39 | 51 => 29 | 53 => 51 | 4 => 4 | 183 => 42 | 182 => 41 | 131 => 47 | 5 => 5 | 218 => 52 | 222 => 56 | 228 => 59 | 229 => 60 | n => n, fun | n => n⟩
theorem lays192 : Go.Proofs.Lays.n192 Try.prog lays192_ren where
  mixed := by kernel_rfl
  f125 := Try.func13.trans (congrArg some (by kernel_rfl))
  f128 := Try.func23.trans (congrArg some (by kernel_rfl))
  f129 := Try.func24.trans (congrArg some (by kernel_rfl))
  f190 := Try.func11.trans (congrArg some (by kernel_rfl))
  f192 := Try.func10.trans (congrArg some (by kernel_rfl))
  f258 := Try.func12.trans (congrArg some (by kernel_rfl))
  f302 := Try.func14.trans (congrArg some (by kernel_rfl))
  f303 := Try.func15.trans (congrArg some (by kernel_rfl))
  f304 := Try.func16.trans (congrArg some (by kernel_rfl))
  f305 := Try.func17.trans (congrArg some (by kernel_rfl))
  f306 := Try.func18.trans (congrArg some (by kernel_rfl))
  f307 := Try.func19.trans (congrArg some (by kernel_rfl))
  f308 := Try.func20.trans (congrArg some (by kernel_rfl))
  f309 := Try.func21.trans (congrArg some (by kernel_rfl))
  f310 := Try.func22.trans (congrArg some (by kernel_rfl))
  f329 := Try.func26.trans (congrArg some (by kernel_rfl))
  f330 := Try.func27.trans (congrArg some (by kernel_rfl))
  f333 := Try.func25.trans (congrArg some (by kernel_rfl))
  f334 := Try.func28.trans (congrArg some (by kernel_rfl))
  f335 := Try.func29.trans (congrArg some (by kernel_rfl))
  f336 := Try.func30.trans (congrArg some (by kernel_rfl))
  f344 := Try.func31.trans (congrArg some (by kernel_rfl))
  t0 := Try.underlying0
  a0 := Try.isAgg0
  z0 := Try.sizeOf0
  v0 := Try.zeroValue0
  t3 := Try.underlying3
  a3 := Try.isAgg3
  z3 := Try.sizeOf3
  v3 := Try.zeroValue3
  t4 := Try.underlying4
  a4 := Try.isAgg4
  z4 := Try.sizeOf4
  v4 := Try.zeroValue4
  t5 := Try.underlying5
  a5 := Try.isAgg5
  z5 := Try.sizeOf5
  v5 := Try.zeroValue5
  t9 := Try.underlying9
  a9 := Try.isAgg9
  z9 := Try.sizeOf9
  v9 := Try.zeroValue9
  t31 := Try.underlying22
  a31 := Try.isAgg22
  z31 := Try.sizeOf22
  v31 := Try.zeroValue22
  t46 := Try.underlying39
  a46 := Try.isAgg39
  z46 := Try.sizeOf39
  v46 := Try.zeroValue39
  t51 := Try.underlying29
  a51 := Try.isAgg29
  z51 := Try.sizeOf29
  v51 := Try.zeroValue29
  t53 := Try.underlying51
  a53 := Try.isAgg51
  z53 := Try.sizeOf51
  v53 := Try.zeroValue51
  t131 := Try.underlying47
  a131 := Try.isAgg47
  z131 := Try.sizeOf47
  v131 := Try.zeroValue47
  t182 := Try.underlying41
  a182 := Try.isAgg41
  z182 := Try.sizeOf41
  v182 := Try.zeroValue41
  t183 := Try.underlying42
  a183 := Try.isAgg42
  z183 := Try.sizeOf42
  v183 := Try.zeroValue42
  t218 := Try.underlying52
  a218 := Try.isAgg52
  z218 := Try.sizeOf52
  v218 := Try.zeroValue52
  t222 := Try.underlying56
  a222 := Try.isAgg56
  z222 := Try.sizeOf56
  v222 := Try.zeroValue56
  t228 := Try.underlying59
  a228 := Try.isAgg59
  z228 := Try.sizeOf59
  v228 := Try.zeroValue59
  t229 := Try.underlying60
  a229 := Try.isAgg60
  z229 := Try.sizeOf60
  v229 := Try.zeroValue60

/-- The library's sort, over this program. -/
theorem sortS : SortS := fun blk off cap ss w hH hb hl => Any.sort_Strings lays192 blk off cap ss w hH hb hl
theorem walk (a0 : Option Addr) (len0 cap0 : Nat) (z0 : Nat → ByteArray) (w : World) (w0 : IsStrs w a0 len0 cap0 z0) :
    Calls Try.prog 3 #[.slice a0 len0 cap0] w fun e w' => e = .returned (.bool true) ∧ Below w.heap.size w w' :=
  main3 sortS a0 len0 cap0 z0 w w0

end Go.Proofs.Ytdikaidllmhbhaa.fnSortedKeysOfMapIsTheSortedKeySet
