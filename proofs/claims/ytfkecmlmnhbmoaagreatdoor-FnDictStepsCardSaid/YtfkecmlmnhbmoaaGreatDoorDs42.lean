import Derived.Test.YtfkecmlmnhbmoaaGreatDoorDs40
import Derived.Test.YtfkecmlmnhbmoaaGreatDoorDs41
import Derived.Test.YtfkecmlmnhbmoaaGreatDoorDs30
import Derived.BigRegion
import Derived.Deep.RegionWith
namespace Go.Proofs.YtfkecmlmnhbmoaaGreatDoor
open Go.RowKit Go.Maps
def L4E (w : World) (e : Ending) (w' : World) : Prop := e = .returned (.bool true) ∧ Kept [] w w'
end Go.Proofs.YtfkecmlmnhbmoaaGreatDoor
