import Derived.Test.YtfkecmlmnhbmoaaGreatDoorFk20
import Derived.ScopeJumps
namespace Go.Proofs.YtfkecmlmnhbmoaaGreatDoor
open Go.RowKit
/-- A scope from which the run jumps forward, to one label, once. -/
theorem wp_scope_fwd {P : Program} {a : Act} {w : World} {Q : Exit → Act → World → Prop} {c rest : Code} (l : Nat) (hf : findLabel c l = some rest)
    (first : c.wp P (Exit.jump l (fun a w => rest.wp P (Exit.jump l (fun _ _ => False) Q) a w) Q) a w) : (Code.scope c).wp P Q a w :=
  wp_scope_jumps l _ (fun _ _ => 0) hf first (fun a w h => wp_mono h (fun e a w q => by cases e <;> first | exact q | exact q.2.elim))
theorem neg27 : (-27 : Int) = -((27 : Nat) : Int) := rfl
end Go.Proofs.YtfkecmlmnhbmoaaGreatDoor
