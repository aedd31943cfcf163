import Derived.Test.YthlflglkdaainaaGreatDoorPC
import Derived.Test.YthlflglkdaainaaGreatDoorPN
/- Texts of this seat: KM. -/
set_option maxRecDepth 100000
set_option maxHeartbeats 8000000
namespace Go.Proofs.YthlflglkdaainaaGreatDoor
open Go.RowKit Go.Lib
end Go.Proofs.YthlflglkdaainaaGreatDoor
