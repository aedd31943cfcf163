import Derived.Shelf.SlSorted.Search
import Derived.Test.YtknlnllmoilglaaDoorProg
/- The library's contract of sort.Search, laid at this translation's numbers. -/
namespace Go.Proofs.YtknlnllmoilglaaDoor
open Go.Shelf
def lSearch_ren : Go.Shelf.Ren := ⟨fun | 16 => 43 | n => n, fun | 3 => 3 | 35 => 47 | 4 => 4 | 38 => 64 | n => n, fun | n => n⟩
theorem lSearch : Go.Proofs.SlLaysO.n16 Tryd.prog lSearch_ren := {
  mixed := by kernel_rfl
  f16 := Tryd.func43.trans (congrArg some (by kernel_rfl))
  t3 := Tryd.underlying3
  a3 := Tryd.isAgg3
  z3 := Tryd.sizeOf3
  v3 := Tryd.zeroValue3
  t4 := Tryd.underlying4
  a4 := Tryd.isAgg4
  z4 := Tryd.sizeOf4
  v4 := Tryd.zeroValue4
  t35 := Tryd.underlying47
  a35 := Tryd.isAgg47
  z35 := Tryd.sizeOf47
  v35 := Tryd.zeroValue47
  t38 := Tryd.underlying64
  a38 := Tryd.isAgg64
  z38 := Tryd.sizeOf64
  v38 := Tryd.zeroValue64 }
end Go.Proofs.YtknlnllmoilglaaDoor
