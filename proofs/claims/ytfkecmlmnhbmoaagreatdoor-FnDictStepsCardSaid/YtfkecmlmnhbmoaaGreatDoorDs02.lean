import Derived.LaidEql
import Derived.Stop.Asserts
import Derived.RowKitTokens
import Derived.Test.YtfkecmlmnhbmoaaGreatDoorDs01
namespace Go.Proofs.YtfkecmlmnhbmoaaGreatDoor
open Go.RowKit Go.Extern.Stop Go.Stop Go.Extern
end Go.Proofs.YtfkecmlmnhbmoaaGreatDoor
namespace Go.Proofs.YtfkecmlmnhbmoaaGreatDoor
open Go.RowKit
end Go.Proofs.YtfkecmlmnhbmoaaGreatDoor
namespace Go.Proofs.YtfkecmlmnhbmoaaGreatDoor
open Go.RowKit
end Go.Proofs.YtfkecmlmnhbmoaaGreatDoor
namespace Go.Proofs.YtfkecmlmnhbmoaaGreatDoor
open Go.RowKit
end Go.Proofs.YtfkecmlmnhbmoaaGreatDoor
