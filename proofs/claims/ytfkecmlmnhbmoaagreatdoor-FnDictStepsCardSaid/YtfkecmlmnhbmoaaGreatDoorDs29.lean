import Derived.Test.YtfkecmlmnhbmoaaGreatDoorDs24
namespace Go.Proofs.YtfkecmlmnhbmoaaGreatDoor
open Go.RowKit
/-- A bound of blocks, and blocks below it that are left out. -/
structure Bd where
  n : Nat
  R : Nat → Prop
/-- Below the bound, and not left out. -/
def LtB (N : Bd) : Nat → Prop := fun b => b < N.n ∧ ¬ N.R b
/-- That, or between H and M. -/
def FrB (N : Bd) (H M : Nat) : Nat → Prop := fun b => (b < N.n ∧ ¬ N.R b) ∨ (H ≤ b ∧ b < M)
theorem ltkB {N : Bd} {w : World} {X : List Nat} (hN : N.n ≤ w.heap.size) (hX : ∀ x ∈ X, N.n ≤ x) : ∀ b, LtB N b → b < w.heap.size ∧ b ∉ X := fun b hb => ⟨Nat.lt_of_lt_of_le hb.1 hN, fun hm => by have := hX _ hm; have := hb.1; omega⟩
end Go.Proofs.YtfkecmlmnhbmoaaGreatDoor
