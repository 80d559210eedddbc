/- Words; Contract; Contracts; Contracts. -/
import Derived.Test.YtgfkdjmoflbmdaaGreatDoorRNa
namespace Go.Proofs.YtgfkdjmoflbmdaaGreatDoor
open Go.RowKit
open Go.Proofs
end Go.Proofs.YtgfkdjmoflbmdaaGreatDoor
namespace Go.Proofs.YtgfkdjmoflbmdaaGreatDoor
open Go.RowKit
open Go.Proofs
end Go.Proofs.YtgfkdjmoflbmdaaGreatDoor
namespace Go.Proofs.YtgfkdjmoflbmdaaGreatDoor
open Go.RowKit
open Go.Proofs
end Go.Proofs.YtgfkdjmoflbmdaaGreatDoor
