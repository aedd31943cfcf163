import Derived.Test.YthlflglkdaainaaGreatDoorPB
/- Texts of this seat: KR. -/
set_option maxRecDepth 100000
set_option maxHeartbeats 8000000
namespace Go.Proofs.YthlflglkdaainaaGreatDoor
open Go.RowKit
end Go.Proofs.YthlflglkdaainaaGreatDoor
namespace Go.Proofs.YthlflglkdaainaaGreatDoor
open Go.RowKit
end Go.Proofs.YthlflglkdaainaaGreatDoor
namespace Go.Proofs.YthlflglkdaainaaGreatDoor
open Go.RowKit
noncomputable def composes (c : Nat) : Bool := match dfind c with | some e => e.2.2.2 | none => false
end Go.Proofs.YthlflglkdaainaaGreatDoor
namespace Go.Proofs.YthlflglkdaainaaGreatDoor
open Go.RowKit
end Go.Proofs.YthlflglkdaainaaGreatDoor
namespace Go.Proofs.YthlflglkdaainaaGreatDoor
open Go.RowKit
end Go.Proofs.YthlflglkdaainaaGreatDoor
namespace Go.Proofs.YthlflglkdaainaaGreatDoor
open Go.RowKit
end Go.Proofs.YthlflglkdaainaaGreatDoor
namespace Go.Proofs.YthlflglkdaainaaGreatDoor
open Go.RowKit
theorem quick_eq (c : Nat) : quick c = if (dfind c).isSome ∧ composes c = false then 1 else if second c then 2 else 0 := by
 unfold quick composes
 cases dfind c with
 | none => simp
 | some e => simp; cases e.2.2.2 <;> simp
end Go.Proofs.YthlflglkdaainaaGreatDoor
