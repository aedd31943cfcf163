import Derived.Test.YthlflglkdaainaaGreatDoorP6
/- plan.Find: the closures. -/
namespace Go.Proofs.YthlflglkdaainaaGreatDoor.Tr
open Go.RowKit Go.Lib Go.Proofs.YthlflglkdaainaaGreatDoorW.PrintWords Go.Proofs.YthlflglkdaainaaGreatDoor.Prt

set_option maxRecDepth 100000 in
set_option maxHeartbeats 4000000 in
theorem find11 (L : List It) (a : Nat) (x : It) (w : World) (x0 : w.cell? ⟨a, 0, none⟩ = some (.int .i64 x.f0)) (x1 : w.cell? ⟨a, 1, none⟩ = some (.string x.f1)) :
    PredL L 75 #[.pointer (some ⟨a, 0, none⟩)] (fun y => decide (y.f0 = x.f0) && (y.f1.toList == x.f1.toList)) w := by
  intro W y A c hy hb
  have hu41 := Tryz.underlying53
  have ha : a < w.heap.size := World.block_lt_of_cell? _ _ x0
  have y0 := (Below.cell hb ha).trans x0
  have y1 := (Below.cell hb ha).trans x1
  have haW : a < W.heap.size := Nat.lt_of_lt_of_le ha hb.size
  unfold cellsIt
  go_enter Tryz.func75, Tryz.ntmps75
  go_wp2
  all_goals (rename_i h1; go_wp2; go_ret; refine ⟨?_, below_then hb hb.size (below_alloc (Below.refl _ _) _)⟩; simp [h1])
end Go.Proofs.YthlflglkdaainaaGreatDoor.Tr
