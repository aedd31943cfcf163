import Derived.Test.YthlflglkdaainaaGreatDoorGC
import Derived.Test.YthlflglkdaainaaGreatDoorGN
/- Texts of this seat: KM. -/
set_option maxRecDepth 100000
set_option maxHeartbeats 16000000
namespace Go.Proofs.YthlflglkdaainaaGreatDoor
open Go.RowKit Go.Lib
def MB (ao : Option Addr) (cap k : Nat) : Option Addr := if cap = k then ao else ao.map (·.add k)
end Go.Proofs.YthlflglkdaainaaGreatDoor
