import Derived.Shelf.SlSorted.Search
import Derived.Test.YtgjlneedpbgfpaaDoorProg
/- The library's contract of sort.Search, laid at this translation's numbers. -/
namespace Go.Proofs.YtgjlneedpbgfpaaDoor
open Go.Shelf
def lSearch_ren : Go.Shelf.Ren := ⟨fun | 16 => 78 | n => n, fun | 3 => 3 | 35 => 69 | 4 => 4 | 38 => 90 | n => n, fun | n => n⟩
theorem lSearch : Go.Proofs.SlLaysO.n16 Tryd.prog lSearch_ren := {
  mixed := by kernel_rfl
  f16 := Tryd.func78.trans (congrArg some (by kernel_rfl))
  t3 := Tryd.underlying3
  a3 := Tryd.isAgg3
  z3 := Tryd.sizeOf3
  v3 := Tryd.zeroValue3
  t4 := Tryd.underlying4
  a4 := Tryd.isAgg4
  z4 := Tryd.sizeOf4
  v4 := Tryd.zeroValue4
  t35 := Tryd.underlying69
  a35 := Tryd.isAgg69
  z35 := Tryd.sizeOf69
  v35 := Tryd.zeroValue69
  t38 := Tryd.underlying90
  a38 := Tryd.isAgg90
  z38 := Tryd.sizeOf90
  v38 := Tryd.zeroValue90 }
end Go.Proofs.YtgjlneedpbgfpaaDoor
