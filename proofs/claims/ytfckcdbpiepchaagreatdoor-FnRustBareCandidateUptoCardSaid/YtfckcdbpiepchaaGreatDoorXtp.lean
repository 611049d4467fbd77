import Derived.Test.YtfckcdbpiepchaaGreatDoorNs38
namespace Go.Proofs.YtfckcdbpiepchaaGreatDoor
open Go.RowKit
set_option maxRecDepth 100000
set_option maxHeartbeats 8000000
set_option linter.all false
end Go.Proofs.YtfckcdbpiepchaaGreatDoor
