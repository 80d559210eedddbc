/- Contracts. -/
import Derived.Test.YtgfkdjmoflbmdaaGreatDoorRXixNb
namespace Go.Proofs.YtgfkdjmoflbmdaaGreatDoor
open Go.RowKit
open Go.Proofs
end Go.Proofs.YtgfkdjmoflbmdaaGreatDoor
