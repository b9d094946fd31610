import Derived.Test.YtfkecmlmnhbmoaaGreatDoorProg
import Derived.WalkKit
import Derived.WalkSpells
import Derived.WalkLawsBesides
import Derived.Lib.Hide
namespace Go.Proofs.YtfkecmlmnhbmoaaGreatDoor
open Go.RowKit
@[go_sem] theorem run_store_float (P : Program) (w : World) (a : Addr) (k : FloatKind) (b : Nat) (m : Mode) : (store a (.float k b) m).run P w = stored P w a (.float k b) m := run_store P w a _ m rfl
theorem ta_miss {P : Program} {t u : TypeId} {d : TypeDesc} {z : Value} (ht : P.underlying t = some d) (hd : ∀ ms, d ≠ .interface ms) (hz : ∀ w, (zeroValue t).run P w = .ok z w) (hne : u ≠ t) (v : Value) (xT : TypeId) (w : World) :
    (Instr.typeAssert (.iface u v) xT t true).run P w = .ok (.tuple #[z, .bool false]) w := by
  unfold Instr.typeAssert
  simp only [Sem.run_bind, run_underlying ht, Result.andThen]
  cases d <;> first | exact absurd rfl (hd _) | simp [hne, hz, Result.andThen]
end Go.Proofs.YtfkecmlmnhbmoaaGreatDoor
