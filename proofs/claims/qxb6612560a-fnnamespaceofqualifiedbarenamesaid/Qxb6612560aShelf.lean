/-
  strings.LastIndex AT THIS DUMP: the shelf's contract laid by the kit's own tool (lay-shelf, lay-plain), this one alone.
-/
import Derived.Shelf.Strings.LastIndexAll
import Derived.Test.Qxb6612560aProg
namespace Go.Proofs.Qxb6612560a
open Go.Shelf
def lays148_ren : Go.Shelf.Ren := ⟨fun | 148 => 29 | 222 => 33 | 223 => 34 | 269 => 38 | n => n, fun | 9 => 9 | 3 => 3 | 4 => 4 | 5 => 5 | 146 => 92 | 51 => 27 | 46 => 96 | n => n, fun | n => n⟩
theorem lays148 : Go.Proofs.Lays.n148 Try.prog lays148_ren := {
  mixed := by kernel_rfl
  f148 := Try.func29.trans (congrArg some (by kernel_rfl))
  f222 := Try.func33.trans (congrArg some (by kernel_rfl))
  f223 := Try.func34.trans (congrArg some (by kernel_rfl))
  f269 := Try.func38.trans (congrArg some (by kernel_rfl))
  t3 := Try.underlying3
  a3 := Try.isAgg3
  z3 := Try.sizeOf3
  v3 := Try.zeroValue3
  t4 := Try.underlying4
  a4 := Try.isAgg4
  z4 := Try.sizeOf4
  v4 := Try.zeroValue4
  t5 := Try.underlying5
  a5 := Try.isAgg5
  z5 := Try.sizeOf5
  v5 := Try.zeroValue5
  t9 := Try.underlying9
  a9 := Try.isAgg9
  z9 := Try.sizeOf9
  v9 := Try.zeroValue9
  t46 := Try.underlying96
  a46 := Try.isAgg96
  z46 := Try.sizeOf96
  v46 := Try.zeroValue96
  t51 := Try.underlying27
  a51 := Try.isAgg27
  z51 := Try.sizeOf27
  v51 := Try.zeroValue27
  t146 := Try.underlying92
  a146 := Try.isAgg92
  z146 := Try.sizeOf92
  v146 := Try.zeroValue92 }
theorem lastIndex_any (s sub : ByteArray) (hs : s.size < 4611686018427387904) (w : World) :
    Calls Try.prog 29 #[.string s, .string sub] w fun e w' => e = .returned (.int .i64 (Lib.lastIndex s.data.toList sub.data.toList)) ∧ w' = w := Any.strings_LastIndex lays148 s sub hs w
end Go.Proofs.Qxb6612560a
