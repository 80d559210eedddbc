/- Contracts: PubVersion.CompareStr, PubCompareText. -/
import Derived.Test.YtgfkdjmoflbmdaaGreatDoorRKb
import Derived.Test.YtgfkdjmoflbmdaaGreatDoorRXw
namespace Go.Proofs.YtgfkdjmoflbmdaaGreatDoor
open Go.RowKit
open Go.Proofs
end Go.Proofs.YtgfkdjmoflbmdaaGreatDoor
