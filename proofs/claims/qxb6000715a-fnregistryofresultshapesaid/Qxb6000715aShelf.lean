/-
  THE SHELF LAID AT THIS PROGRAM (by the kit, in plain words): contracts of library functions on the roads.
-/
import Derived.Shelf.Strings.Search1
import Derived.Shelf.Strings.LastIndex
import Derived.Test.Qxb6000715aProg
namespace Go.Proofs
open Go.Shelf
def Try.lays217_ren : Go.Shelf.Ren := ⟨fun | 217 => 44 | 266 => 50 | n => n, fun | 9 => 9 | 5 => 5 | 3 => 3 | n => n, fun | n => n⟩
theorem Try.lays217 : Go.Proofs.Lays.n217 Try.prog Try.lays217_ren := {
  mixed := by kernel_rfl
  f217 := Try.func44.trans (congrArg some (by kernel_rfl))
  f266 := Try.func50.trans (congrArg some (by kernel_rfl))
  t3 := Try.underlying3
  a3 := Try.isAgg3
  z3 := Try.sizeOf3
  v3 := Try.zeroValue3
  t5 := Try.underlying5
  a5 := Try.isAgg5
  z5 := Try.sizeOf5
  v5 := Try.zeroValue5
  t9 := Try.underlying9
  a9 := Try.isAgg9
  z9 := Try.sizeOf9
  v9 := Try.zeroValue9 }
open Go.RowKit Go.Lib in
theorem Try.stringslite_IndexByte (s : ByteArray) (c : Int) (w : World) :
    Calls Try.prog 44 #[.string s, .int .u8 c] w fun e w' => e = .returned (.int .i64 (Lib.indexByte s.data.toList c.toNat.toUInt8)) ∧ w' = w := Any.stringslite_IndexByte Try.lays217 s c w
def Try.lays148_ren : Go.Shelf.Ren := ⟨fun | 148 => 32 | 222 => 35 | 223 => 36 | 269 => 39 | n => n, fun | 9 => 9 | 3 => 3 | 4 => 4 | 5 => 5 | 146 => 40 | 51 => 39 | 46 => 50 | n => n, fun | n => n⟩
theorem Try.lays148 : Go.Proofs.Lays.n148 Try.prog Try.lays148_ren := {
  mixed := by kernel_rfl
  f148 := Try.func32.trans (congrArg some (by kernel_rfl))
  f222 := Try.func35.trans (congrArg some (by kernel_rfl))
  f223 := Try.func36.trans (congrArg some (by kernel_rfl))
  f269 := Try.func39.trans (congrArg some (by kernel_rfl))
  t3 := Try.underlying3
  a3 := Try.isAgg3
  z3 := Try.sizeOf3
  v3 := Try.zeroValue3
  t4 := Try.underlying4
  a4 := Try.isAgg4
  z4 := Try.sizeOf4
  v4 := Try.zeroValue4
  t5 := Try.underlying5
  a5 := Try.isAgg5
  z5 := Try.sizeOf5
  v5 := Try.zeroValue5
  t9 := Try.underlying9
  a9 := Try.isAgg9
  z9 := Try.sizeOf9
  v9 := Try.zeroValue9
  t46 := Try.underlying50
  a46 := Try.isAgg50
  z46 := Try.sizeOf50
  v46 := Try.zeroValue50
  t51 := Try.underlying39
  a51 := Try.isAgg39
  z51 := Try.sizeOf39
  v51 := Try.zeroValue39
  t146 := Try.underlying40
  a146 := Try.isAgg40
  z146 := Try.sizeOf40
  v146 := Try.zeroValue40 }
open Go.RowKit Go.Lib in
theorem Try.strings_LastIndex_one (s sub : ByteArray) (h1 : sub.size = 1) (hs : s.size < 4611686018427387904) (w : World) :
    Calls Try.prog 32 #[.string s, .string sub] w fun e w' => e = .returned (.int .i64 (Lib.lastIndexByte s ((sub[0]'(by omega)).toNat : Int))) ∧ w' = w := Any.strings_LastIndex_one Try.lays148 s sub h1 hs w
end Go.Proofs
