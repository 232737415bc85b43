/-
  strconv.Itoa's contract off the kit's shelf, laid at this program's numbers by the kit's own tools (lay-shelf.mjs, lay-plain.mjs); and what the walks of this seat take of it. No walk.
-/
import Derived.Test.Qxb6619242aDoorWalks
import Derived.Shelf.Strconv.Itoa0
import Derived.Shelf.Strconv.Itoa1
import Derived.Shelf.LaysM
import Derived.Shelf.Strconv.Itoa2
import Derived.Shelf.Strconv.Itoa3
import Derived.Test.Qxb6619242aDoorProg
namespace Go.Proofs
open Go.Shelf
def Tryd.laysM171_ren : Go.Shelf.Ren := ⟨fun | 171 => 8 | 243 => 9 | 246 => 10 | 283 => 11 | 284 => 12 | 285 => 13 | 286 => 14 | 129 => 16 | 317 => 15 | 318 => 17 | 319 => 18 | 320 => 19 | 337 => 20 | 338 => 21 | n => n, fun | 3 => 3 | 9 => 9 | 2 => 2 | 4 => 4 | 171 => 24 | 0 => 0 | 53 => 28 | 37 => 25 | 5 => 5 | 173 => 31 | 212 => 35 | 51 => 36 | 20 => 20 | 213 => 37 | 46 => 38 | 232 => 41 | 233 => 42 | n => n, fun | 17 => 0 | 18 => 1 | 19 => 2 | n => n⟩
theorem Tryd.laysM171 : Go.Proofs.LaysM.n171 Tryd.prog Tryd.laysM171_ren := {
  mixed := by kernel_rfl
  f129 := Tryd.func16.trans (congrArg some (by kernel_rfl))
  f171 := Tryd.func8.trans (congrArg some (by kernel_rfl))
  f243 := Tryd.func9.trans (congrArg some (by kernel_rfl))
  f246 := Tryd.func10.trans (congrArg some (by kernel_rfl))
  f283 := Tryd.func11.trans (congrArg some (by kernel_rfl))
  f284 := Tryd.func12.trans (congrArg some (by kernel_rfl))
  f285 := Tryd.func13.trans (congrArg some (by kernel_rfl))
  f286 := Tryd.func14.trans (congrArg some (by kernel_rfl))
  f317 := Tryd.func15.trans (congrArg some (by kernel_rfl))
  f318 := Tryd.func17.trans (congrArg some (by kernel_rfl))
  f319 := Tryd.func18.trans (congrArg some (by kernel_rfl))
  f320 := Tryd.func19.trans (congrArg some (by kernel_rfl))
  f337 := Tryd.func20.trans (congrArg some (by kernel_rfl))
  f338 := Tryd.func21.trans (congrArg some (by kernel_rfl))
  t0 := Tryd.underlying0
  a0 := Tryd.isAgg0
  z0 := Tryd.sizeOf0
  v0 := Tryd.zeroValue0
  t2 := Tryd.underlying2
  a2 := Tryd.isAgg2
  z2 := Tryd.sizeOf2
  v2 := Tryd.zeroValue2
  t3 := Tryd.underlying3
  a3 := Tryd.isAgg3
  z3 := Tryd.sizeOf3
  v3 := Tryd.zeroValue3
  t4 := Tryd.underlying4
  a4 := Tryd.isAgg4
  z4 := Tryd.sizeOf4
  v4 := Tryd.zeroValue4
  t5 := Tryd.underlying5
  a5 := Tryd.isAgg5
  z5 := Tryd.sizeOf5
  v5 := Tryd.zeroValue5
  t9 := Tryd.underlying9
  a9 := Tryd.isAgg9
  z9 := Tryd.sizeOf9
  v9 := Tryd.zeroValue9
  t20 := Tryd.underlying20
  a20 := Tryd.isAgg20
  z20 := Tryd.sizeOf20
  v20 := Tryd.zeroValue20
  t37 := Tryd.underlying25
  a37 := Tryd.isAgg25
  z37 := Tryd.sizeOf25
  v37 := Tryd.zeroValue25
  t46 := Tryd.underlying38
  a46 := Tryd.isAgg38
  z46 := Tryd.sizeOf38
  v46 := Tryd.zeroValue38
  t51 := Tryd.underlying36
  a51 := Tryd.isAgg36
  z51 := Tryd.sizeOf36
  v51 := Tryd.zeroValue36
  t53 := Tryd.underlying28
  a53 := Tryd.isAgg28
  z53 := Tryd.sizeOf28
  v53 := Tryd.zeroValue28
  t171 := Tryd.underlying24
  a171 := Tryd.isAgg24
  z171 := Tryd.sizeOf24
  v171 := Tryd.zeroValue24
  t173 := Tryd.underlying31
  a173 := Tryd.isAgg31
  z173 := Tryd.sizeOf31
  v173 := Tryd.zeroValue31
  t212 := Tryd.underlying35
  a212 := Tryd.isAgg35
  z212 := Tryd.sizeOf35
  v212 := Tryd.zeroValue35
  t213 := Tryd.underlying37
  a213 := Tryd.isAgg37
  z213 := Tryd.sizeOf37
  t232 := Tryd.underlying41
  a232 := Tryd.isAgg41
  z232 := Tryd.sizeOf41
  v232 := Tryd.zeroValue41
  t233 := Tryd.underlying42
  a233 := Tryd.isAgg42
  z233 := Tryd.sizeOf42
  v233 := Tryd.zeroValue42
  g17 := by kernel_rfl
  g18 := by kernel_rfl
  g19 := by kernel_rfl
  i0 := by kernel_rfl
  i2 := by kernel_rfl
  i3 := by kernel_rfl
  i4 := by kernel_rfl
  i5 := by kernel_rfl
  i9 := by kernel_rfl
  i20 := by kernel_rfl
  i37 := by kernel_rfl
  i46 := by kernel_rfl
  i51 := by kernel_rfl
  i53 := by kernel_rfl
  i171 := by kernel_rfl
  i173 := by kernel_rfl
  i212 := by kernel_rfl
  i232 := by kernel_rfl
  i233 := by kernel_rfl
  m17 := by kernel_rfl
  m18 := by kernel_rfl
  m19 := by kernel_rfl }
namespace Qxb6619242aDoor
theorem itoa_said : ItoaSaid := by
  intro n h w htab
  refine (Any.strconv_Itoa Tryd.laysM171 (n : Int) (by omega) (by omega) w htab).mono ?_
  rintro e w' ⟨rfl, k, os, rfl⟩
  refine ⟨?_, Lib.below_grow _ w (Nat.le_refl _) k os⟩
  rw [Lib.itoa_nonneg]
end Qxb6619242aDoor
end Go.Proofs
