import Derived.Test.YtfkecmlmnhbmoaaGreatDoorFk22
import Derived.Deep.DeepCutAuto
namespace Go.Proofs.YtfkecmlmnhbmoaaGreatDoor
open Go.RowKit
/-- The real is not nought. -/
def fne (r : Nat) : Bool := FloatKind.f64.format.order r 0 != some .eq
/-- The fields that the kind does not use are zero. -/
structure Only (k i g : Int) (r : Nat) (s : ByteArray) (nk nd : Nat) : Prop where
  i : i = 0 ∨ k = 1 ∨ k = 2 ∨ k = 9
  g : g = 0 ∨ k = 9
  r : fne r = false ∨ k = 3
  s : s.toList.isEmpty = true ∨ k = 4 ∨ k = 5 ∨ k = 6
  keys : nk = 0 ∨ k = 8
  kids : nd = 0 ∨ k = 7 ∨ k = 8
end Go.Proofs.YtfkecmlmnhbmoaaGreatDoor
namespace Go.Proofs.YtfkecmlmnhbmoaaGreatDoor
open Go.RowKit
end Go.Proofs.YtfkecmlmnhbmoaaGreatDoor
