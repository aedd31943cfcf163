import Derived.Deep.RegionHeld3
import Derived.BigQuiet
import Derived.Test.YthlflglkdaainaaGreatDoorPM
import Derived.Test.YthlflglkdaainaaGreatDoorPN
/- Texts of this seat: KP. -/
set_option maxRecDepth 100000
set_option maxHeartbeats 8000000
namespace Go.Proofs.YthlflglkdaainaaGreatDoor
open Go.Lib
end Go.Proofs.YthlflglkdaainaaGreatDoor
namespace Go.Proofs.YthlflglkdaainaaGreatDoor
open Go.RowKit Go.Lib
end Go.Proofs.YthlflglkdaainaaGreatDoor
namespace Go.Proofs.YthlflglkdaainaaGreatDoor
open Go.RowKit Go.Lib
end Go.Proofs.YthlflglkdaainaaGreatDoor
namespace Go.Proofs.YthlflglkdaainaaGreatDoor
open Go.RowKit Go.Lib
end Go.Proofs.YthlflglkdaainaaGreatDoor
