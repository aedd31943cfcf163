import Derived.Test.YthlflglkdaainaaGreatDoorChecked
import Derived.Shelf.SlicesG.Equal
import Derived.Ground.SlgnProg
/- A laying of the library in this program (what shelf_lay makes, written out). -/
namespace Go.Proofs.YthlflglkdaainaaGreatDoor
open Go.RowKit
def lEqS_ren : Go.Shelf.Ren := ⟨fun | 34 => 76 | n => n, fun | 25 => 65 | 26 => 9 | 4 => 4 | 3 => 3 | 0 => 0 | n => n, fun | n => n⟩
theorem lEqS : Go.Proofs.SlLaysN.n34 Tryz.prog lEqS_ren := {
  mixed := by kernel_rfl
  f34 := ⟨"slices.Equal[[]string,string]", by decide, Tryz.func76.trans (congrArg some (by kernel_rfl))⟩
  t0 := Tryz.underlying0
  a0 := Tryz.isAgg0
  z0 := Tryz.sizeOf0
  v0 := Tryz.zeroValue0
  t3 := Tryz.underlying3
  a3 := Tryz.isAgg3
  z3 := Tryz.sizeOf3
  v3 := Tryz.zeroValue3
  t4 := Tryz.underlying4
  a4 := Tryz.isAgg4
  z4 := Tryz.sizeOf4
  v4 := Tryz.zeroValue4
  t25 := Tryz.underlying65
  a25 := Tryz.isAgg65
  z25 := Tryz.sizeOf65
  v25 := Tryz.zeroValue65
  t26 := Tryz.underlying9
  a26 := Tryz.isAgg9
  z26 := Tryz.sizeOf9
  v26 := Tryz.zeroValue9 }
end Go.Proofs.YthlflglkdaainaaGreatDoor
