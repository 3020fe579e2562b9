import Derived.Test.YthmfjhadkmeldaaDoorKit
import Derived.Test.YthmfjhadkmeldaaDoorTsC
import Derived.Shelf.LaysM
import Derived.Shelf.Strconv.Itoa4
namespace Go.Proofs.YthmfjhadkmeldaaDoor
open Go.ChangeShapes Go.WideShapes Go.ChangeAt Go.RowKit
set_option linter.unusedVariables false
set_option maxRecDepth 100000
set_option maxHeartbeats 2000000

open Go.Shelf Go.Extern
def lays173_ren : Go.Shelf.Ren := ⟨fun | 173 => 6 | 246 => 10 | 283 => 12 | 284 => 13 | 285 => 14 | 286 => 15 | 129 => 19 | 317 => 18 | 318 => 20 | 319 => 21 | 320 => 22 | 337 => 23 | 338 => 24 | n => n, fun | 2 => 2 | 3 => 3 | 9 => 9 | 4 => 4 | 171 => 32 | 0 => 0 | 53 => 33 | 37 => 30 | 5 => 5 | 173 => 36 | 212 => 42 | 51 => 43 | 20 => 20 | 213 => 44 | 46 => 46 | 232 => 49 | 233 => 50 | n => n, fun | 17 => 1 | 18 => 2 | 19 => 3 | n => n⟩
theorem lays173 : Go.Proofs.LaysM.n173 Tryd.prog lays173_ren where
  mixed := by kernel_rfl
  f129 := Tryd.func19.trans (congrArg some (by kernel_rfl))
  f173 := Tryd.func6.trans (congrArg some (by kernel_rfl))
  f246 := Tryd.func10.trans (congrArg some (by kernel_rfl))
  f283 := Tryd.func12.trans (congrArg some (by kernel_rfl))
  f284 := Tryd.func13.trans (congrArg some (by kernel_rfl))
  f285 := Tryd.func14.trans (congrArg some (by kernel_rfl))
  f286 := Tryd.func15.trans (congrArg some (by kernel_rfl))
  f317 := Tryd.func18.trans (congrArg some (by kernel_rfl))
  f318 := Tryd.func20.trans (congrArg some (by kernel_rfl))
  f319 := Tryd.func21.trans (congrArg some (by kernel_rfl))
  f320 := Tryd.func22.trans (congrArg some (by kernel_rfl))
  f337 := Tryd.func23.trans (congrArg some (by kernel_rfl))
  f338 := Tryd.func24.trans (congrArg some (by kernel_rfl))
  t0 := Tryd.underlying0
  a0 := Tryd.isAgg0
  z0 := Tryd.sizeOf0
  v0 := Tryd.zeroValue0
  t2 := Tryd.underlying2
  a2 := Tryd.isAgg2
  z2 := Tryd.sizeOf2
  v2 := Tryd.zeroValue2
  t3 := Tryd.underlying3
  a3 := Tryd.isAgg3
  z3 := Tryd.sizeOf3
  v3 := Tryd.zeroValue3
  t4 := Tryd.underlying4
  a4 := Tryd.isAgg4
  z4 := Tryd.sizeOf4
  v4 := Tryd.zeroValue4
  t5 := Tryd.underlying5
  a5 := Tryd.isAgg5
  z5 := Tryd.sizeOf5
  v5 := Tryd.zeroValue5
  t9 := Tryd.underlying9
  a9 := Tryd.isAgg9
  z9 := Tryd.sizeOf9
  v9 := Tryd.zeroValue9
  t20 := Tryd.underlying20
  a20 := Tryd.isAgg20
  z20 := Tryd.sizeOf20
  v20 := Tryd.zeroValue20
  t37 := Tryd.underlying30
  a37 := Tryd.isAgg30
  z37 := Tryd.sizeOf30
  v37 := Tryd.zeroValue30
  t46 := Tryd.underlying46
  a46 := Tryd.isAgg46
  z46 := Tryd.sizeOf46
  v46 := Tryd.zeroValue46
  t51 := Tryd.underlying43
  a51 := Tryd.isAgg43
  z51 := Tryd.sizeOf43
  v51 := Tryd.zeroValue43
  t53 := Tryd.underlying33
  a53 := Tryd.isAgg33
  z53 := Tryd.sizeOf33
  v53 := Tryd.zeroValue33
  t171 := Tryd.underlying32
  a171 := Tryd.isAgg32
  z171 := Tryd.sizeOf32
  v171 := Tryd.zeroValue32
  t173 := Tryd.underlying36
  a173 := Tryd.isAgg36
  z173 := Tryd.sizeOf36
  v173 := Tryd.zeroValue36
  t212 := Tryd.underlying42
  a212 := Tryd.isAgg42
  z212 := Tryd.sizeOf42
  v212 := Tryd.zeroValue42
  t213 := Tryd.underlying44
  a213 := Tryd.isAgg44
  z213 := Tryd.sizeOf44
  t232 := Tryd.underlying49
  a232 := Tryd.isAgg49
  z232 := Tryd.sizeOf49
  v232 := Tryd.zeroValue49
  t233 := Tryd.underlying50
  a233 := Tryd.isAgg50
  z233 := Tryd.sizeOf50
  v233 := Tryd.zeroValue50
  g17 := by kernel_rfl
  g18 := by kernel_rfl
  g19 := by kernel_rfl
  i0 := by kernel_rfl
  i2 := by kernel_rfl
  i3 := by kernel_rfl
  i4 := by kernel_rfl
  i5 := by kernel_rfl
  i9 := by kernel_rfl
  i20 := by kernel_rfl
  i37 := by kernel_rfl
  i46 := by kernel_rfl
  i51 := by kernel_rfl
  i53 := by kernel_rfl
  i171 := by kernel_rfl
  i173 := by kernel_rfl
  i212 := by kernel_rfl
  i232 := by kernel_rfl
  i233 := by kernel_rfl
  m17 := by kernel_rfl
  m18 := by kernel_rfl
  m19 := by kernel_rfl
def PowTab (w : World) : Prop := Lib.TabIs Tryd.prog w "internal/strconv.uint64pow10" .u64 Lib.pow10Tab
theorem below_grow (w : World) (k : Nat) (os : Array Obj) : Below w.heap.size w (Sort.grow (w.drewN k) os) :=
  ⟨rfl, rfl, rfl, by simp [Sort.grow, World.drewN], fun j hj => by
    show (w.heap ++ os)[j]? = w.heap[j]?
    rw [Array.getElem?_append_left hj]⟩
theorem fi6ten (t : Int) (w : World) (h0 : -2147483648 ≤ t) (h1 : t ≤ 2147483647) (hp : PowTab w) : Calls Tryd.prog 6 #[.int .i64 t, .int .i64 (10 : Int)] w (FmtIs t 10 w) := by
  refine (Any.strconv_FormatInt_10 lays173 t (by omega) (by omega) w hp).mono ?_
  rintro e w1 ⟨rfl, k, os, rfl⟩
  exact ⟨by rw [itoa_numT], below_grow w k os⟩
theorem fi6all (t : Int) (b : Nat) (w : World) (h0 : -2147483648 ≤ t) (h1 : t ≤ 2147483647) (hb : 2 ≤ b) (hb2 : b ≤ 36) (hT : TzAt w) (hp : PowTab w) : Calls Tryd.prog 6 #[.int .i64 t, .int .i64 (b : Int)] w (FmtIs t b w) := by
  by_cases h10 : b = 10
  · subst h10
    exact fi6ten t w h0 h1 hp
  · exact fi6 t b w h0 h1 hb hb2 h10 hT

end Go.Proofs.YthmfjhadkmeldaaDoor
