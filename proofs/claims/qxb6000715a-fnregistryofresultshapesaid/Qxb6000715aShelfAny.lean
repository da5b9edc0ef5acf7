/-
  THE SHELF LAID AT THIS PROGRAM (by the kit, in plain words): contracts of library functions on the roads.
-/
import Derived.Shelf.Strings.IndexAnyAll
import Derived.Test.Qxb6000715aProg
namespace Go.Proofs
open Go.Shelf
def Try.lays153_ren : Go.Shelf.Ren := ⟨fun | 153 => 37 | 152 => 40 | 226 => 41 | 227 => 42 | 228 => 43 | 137 => 48 | 119 => 49 | 224 => 46 | 225 => 45 | 217 => 44 | 266 => 50 | n => n, fun | 9 => 9 | 3 => 3 | 4 => 4 | 5 => 5 | 21 => 21 | 117 => 46 | 116 => 45 | 0 => 0 | 46 => 50 | 124 => 52 | n => n, fun | n => n⟩
theorem Try.lays153 : Go.Proofs.Lays.n153 Try.prog Try.lays153_ren := {
  mixed := by kernel_rfl
  f119 := Try.func49.trans (congrArg some (by kernel_rfl))
  f137 := Try.func48.trans (congrArg some (by kernel_rfl))
  f152 := Try.func40.trans (congrArg some (by kernel_rfl))
  f153 := Try.func37.trans (congrArg some (by kernel_rfl))
  f217 := Try.func44.trans (congrArg some (by kernel_rfl))
  f224 := Try.func46.trans (congrArg some (by kernel_rfl))
  f225 := Try.func45.trans (congrArg some (by kernel_rfl))
  f226 := Try.func41.trans (congrArg some (by kernel_rfl))
  f227 := Try.func42.trans (congrArg some (by kernel_rfl))
  f228 := Try.func43.trans (congrArg some (by kernel_rfl))
  f266 := Try.func50.trans (congrArg some (by kernel_rfl))
  t0 := Try.underlying0
  a0 := Try.isAgg0
  z0 := Try.sizeOf0
  v0 := Try.zeroValue0
  t3 := Try.underlying3
  a3 := Try.isAgg3
  z3 := Try.sizeOf3
  v3 := Try.zeroValue3
  t4 := Try.underlying4
  a4 := Try.isAgg4
  z4 := Try.sizeOf4
  v4 := Try.zeroValue4
  t5 := Try.underlying5
  a5 := Try.isAgg5
  z5 := Try.sizeOf5
  v5 := Try.zeroValue5
  t9 := Try.underlying9
  a9 := Try.isAgg9
  z9 := Try.sizeOf9
  v9 := Try.zeroValue9
  t21 := Try.underlying21
  a21 := Try.isAgg21
  z21 := Try.sizeOf21
  v21 := Try.zeroValue21
  t46 := Try.underlying50
  a46 := Try.isAgg50
  z46 := Try.sizeOf50
  v46 := Try.zeroValue50
  t116 := Try.underlying45
  a116 := Try.isAgg45
  z116 := Try.sizeOf45
  t117 := Try.underlying46
  a117 := Try.isAgg46
  z117 := Try.sizeOf46
  v117 := Try.zeroValue46
  t124 := Try.underlying52
  a124 := Try.isAgg52
  z124 := Try.sizeOf52
  v124 := Try.zeroValue52 }
def Try.lays137_ren : Go.Shelf.Ren := ⟨fun | 137 => 48 | 217 => 44 | 266 => 50 | n => n, fun | 9 => 9 | 5 => 5 | 3 => 3 | n => n, fun | n => n⟩
theorem Try.lays137 : Go.Proofs.Lays.n137 Try.prog Try.lays137_ren := {
  mixed := by kernel_rfl
  f137 := Try.func48.trans (congrArg some (by kernel_rfl))
  f217 := Try.func44.trans (congrArg some (by kernel_rfl))
  f266 := Try.func50.trans (congrArg some (by kernel_rfl))
  t3 := Try.underlying3
  a3 := Try.isAgg3
  z3 := Try.sizeOf3
  v3 := Try.zeroValue3
  t5 := Try.underlying5
  a5 := Try.isAgg5
  z5 := Try.sizeOf5
  v5 := Try.zeroValue5
  t9 := Try.underlying9
  a9 := Try.isAgg9
  z9 := Try.sizeOf9
  v9 := Try.zeroValue9 }
theorem Try.strings_IndexByte (s : ByteArray) (c : Int) (w : World) :
    Calls Try.prog 48 #[.string s, .int .u8 c] w fun e w' => e = .returned (.int .i64 (Lib.indexByte s.data.toList c.toNat.toUInt8)) ∧ w' = w := Any.strings_IndexByte Try.lays137 s c w
end Go.Proofs
