import Derived.Test.YtfkecmlmnhbmoaaGreatDoorDs32
namespace Go.Proofs.YtfkecmlmnhbmoaaGreatDoor
open Go.RowKit Go.Maps
end Go.Proofs.YtfkecmlmnhbmoaaGreatDoor
