/-
  The shelf's contract of sort.SearchInts, laid at this program by the kit's two commands (shelf_lay, lay-plain).
-/
import Derived.Shelf.SlSorted.Search
import Derived.Test.Qxb6612920aRows
namespace Go.Proofs.Qxb6612920a
open Go.Shelf
def Try.searchInts_ren : Go.Shelf.Ren := ⟨fun | 14 => 26 | 22 => 31 | 16 => 30 | n => n, fun | 28 => 22 | 3 => 3 | 0 => 0 | 35 => 73 | 4 => 4 | 38 => 74 | n => n, fun | n => n⟩
theorem Try.searchInts : Go.Proofs.SlLaysO.n14 Try.prog Try.searchInts_ren := {
  mixed := by kernel_rfl
  f14 := Try.func26.trans (congrArg some (by kernel_rfl))
  f16 := Try.func30.trans (congrArg some (by kernel_rfl))
  f22 := Try.func31.trans (congrArg some (by kernel_rfl))
  t0 := Try.underlying0
  a0 := Try.isAgg0
  z0 := Try.sizeOf0
  v0 := Try.zeroValue0
  t3 := Try.underlying3
  a3 := Try.isAgg3
  z3 := Try.sizeOf3
  v3 := Try.zeroValue3
  t4 := Try.underlying4
  a4 := Try.isAgg4
  z4 := Try.sizeOf4
  v4 := Try.zeroValue4
  t28 := Try.underlying22
  a28 := Try.isAgg22
  z28 := Try.sizeOf22
  v28 := Try.zeroValue22
  t35 := Try.underlying73
  a35 := Try.isAgg73
  z35 := Try.sizeOf73
  v35 := Try.zeroValue73
  t38 := Try.underlying74
  a38 := Try.isAgg74
  z38 := Try.sizeOf74
  v38 := Try.zeroValue74 }
end Go.Proofs.Qxb6612920a
