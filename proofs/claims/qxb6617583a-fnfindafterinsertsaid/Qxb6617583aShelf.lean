import Derived.Shelf.Small.Strs
import Derived.Test.Qxb6617583aProg
namespace Go.Proofs
open Go.Shelf
def Try.lays106_ren : Go.Shelf.Ren := ⟨fun | 106 => 14 | 213 => 15 | 265 => 16 | n => n, fun | 9 => 9 | 3 => 3 | n => n, fun | n => n⟩
theorem Try.lays106 : Go.Proofs.Lays.n106 Try.prog Try.lays106_ren := {
  mixed := by kernel_rfl
  f106 := Try.func14.trans (congrArg some (by kernel_rfl))
  f213 := Try.func15.trans (congrArg some (by kernel_rfl))
  f265 := Try.func16.trans (congrArg some (by kernel_rfl))
  t3 := Try.underlying3
  a3 := Try.isAgg3
  z3 := Try.sizeOf3
  v3 := Try.zeroValue3
  t9 := Try.underlying9
  a9 := Try.isAgg9
  z9 := Try.sizeOf9
  v9 := Try.zeroValue9 }
end Go.Proofs
