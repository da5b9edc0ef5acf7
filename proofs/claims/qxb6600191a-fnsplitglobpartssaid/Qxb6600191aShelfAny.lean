/-
  THE SHELF LAID AT THIS PROGRAM (by the kit, in plain words): contracts of library functions on the roads.
-/
import Derived.Shelf.Strings.IndexAnyAll
import Derived.Test.Qxb6600191aProg
namespace Go.Proofs
open Go.Shelf
def Try.lays153_ren : Go.Shelf.Ren := ⟨fun | 153 => 31 | 152 => 34 | 226 => 35 | 227 => 36 | 228 => 37 | 137 => 33 | 119 => 40 | 224 => 41 | 225 => 42 | 217 => 39 | 266 => 43 | n => n, fun | 9 => 9 | 3 => 3 | 4 => 4 | 5 => 5 | 21 => 21 | 117 => 37 | 116 => 36 | 0 => 0 | 46 => 41 | 124 => 42 | n => n, fun | n => n⟩
theorem Try.lays153 : Go.Proofs.Lays.n153 Try.prog Try.lays153_ren := {
  mixed := by kernel_rfl
  f119 := Try.func40.trans (congrArg some (by kernel_rfl))
  f137 := Try.func33.trans (congrArg some (by kernel_rfl))
  f152 := Try.func34.trans (congrArg some (by kernel_rfl))
  f153 := Try.func31.trans (congrArg some (by kernel_rfl))
  f217 := Try.func39.trans (congrArg some (by kernel_rfl))
  f224 := Try.func41.trans (congrArg some (by kernel_rfl))
  f225 := Try.func42.trans (congrArg some (by kernel_rfl))
  f226 := Try.func35.trans (congrArg some (by kernel_rfl))
  f227 := Try.func36.trans (congrArg some (by kernel_rfl))
  f228 := Try.func37.trans (congrArg some (by kernel_rfl))
  f266 := Try.func43.trans (congrArg some (by kernel_rfl))
  t0 := Try.underlying0
  a0 := Try.isAgg0
  z0 := Try.sizeOf0
  v0 := Try.zeroValue0
  t3 := Try.underlying3
  a3 := Try.isAgg3
  z3 := Try.sizeOf3
  v3 := Try.zeroValue3
  t4 := Try.underlying4
  a4 := Try.isAgg4
  z4 := Try.sizeOf4
  v4 := Try.zeroValue4
  t5 := Try.underlying5
  a5 := Try.isAgg5
  z5 := Try.sizeOf5
  v5 := Try.zeroValue5
  t9 := Try.underlying9
  a9 := Try.isAgg9
  z9 := Try.sizeOf9
  v9 := Try.zeroValue9
  t21 := Try.underlying21
  a21 := Try.isAgg21
  z21 := Try.sizeOf21
  v21 := Try.zeroValue21
  t46 := Try.underlying41
  a46 := Try.isAgg41
  z46 := Try.sizeOf41
  v46 := Try.zeroValue41
  t116 := Try.underlying36
  a116 := Try.isAgg36
  z116 := Try.sizeOf36
  t117 := Try.underlying37
  a117 := Try.isAgg37
  z117 := Try.sizeOf37
  v117 := Try.zeroValue37
  t124 := Try.underlying42
  a124 := Try.isAgg42
  z124 := Try.sizeOf42
  v124 := Try.zeroValue42 }
end Go.Proofs
