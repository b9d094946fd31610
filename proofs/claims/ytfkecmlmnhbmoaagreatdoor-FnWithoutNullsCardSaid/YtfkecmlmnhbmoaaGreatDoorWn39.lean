import Derived.Test.YtfkecmlmnhbmoaaGreatDoorWn38
namespace Go.Proofs.YtfkecmlmnhbmoaaGreatDoor
open Go.ChangeShapes Go.WideShapes Go.ChangeAt Go.RowKit
set_option maxRecDepth 100000 in
theorem fnWithoutNullsClosed : joinedFacts Tryz.prog 4 Tryz.f4 Rows.fnWithoutNullsSpec Rows.fnWithoutNullsRow = true := by
  unfold joinedFacts
  refine Bool.and_eq_true_iff.mpr ⟨?_, by exact fnWithoutNullsF31⟩
  refine Bool.and_eq_true_iff.mpr ⟨?_, by exact fnWithoutNullsF30⟩
  refine Bool.and_eq_true_iff.mpr ⟨?_, by exact fnWithoutNullsF29⟩
  refine Bool.and_eq_true_iff.mpr ⟨?_, by exact fnWithoutNullsF28⟩
  refine Bool.and_eq_true_iff.mpr ⟨?_, by exact fnWithoutNullsF27⟩
  refine Bool.and_eq_true_iff.mpr ⟨?_, by exact fnWithoutNullsF26⟩
  refine Bool.and_eq_true_iff.mpr ⟨?_, by exact fnWithoutNullsF25⟩
  refine Bool.and_eq_true_iff.mpr ⟨?_, by exact fnWithoutNullsF24⟩
  refine Bool.and_eq_true_iff.mpr ⟨?_, by exact fnWithoutNullsF23⟩
  refine Bool.and_eq_true_iff.mpr ⟨?_, by exact fnWithoutNullsF22⟩
  refine Bool.and_eq_true_iff.mpr ⟨?_, by exact fnWithoutNullsF21⟩
  refine Bool.and_eq_true_iff.mpr ⟨?_, by exact fnWithoutNullsF20⟩
  refine Bool.and_eq_true_iff.mpr ⟨?_, by exact fnWithoutNullsF19⟩
  refine Bool.and_eq_true_iff.mpr ⟨?_, by exact fnWithoutNullsF18⟩
  refine Bool.and_eq_true_iff.mpr ⟨?_, by exact fnWithoutNullsF17⟩
  refine Bool.and_eq_true_iff.mpr ⟨?_, by exact fnWithoutNullsF16⟩
  refine Bool.and_eq_true_iff.mpr ⟨?_, by exact fnWithoutNullsF15⟩
  refine Bool.and_eq_true_iff.mpr ⟨?_, by exact fnWithoutNullsF14⟩
  refine Bool.and_eq_true_iff.mpr ⟨?_, by exact fnWithoutNullsF13⟩
  refine Bool.and_eq_true_iff.mpr ⟨?_, by exact fnWithoutNullsF12⟩
  refine Bool.and_eq_true_iff.mpr ⟨?_, by exact fnWithoutNullsF11⟩
  refine Bool.and_eq_true_iff.mpr ⟨?_, by exact fnWithoutNullsF10⟩
  refine Bool.and_eq_true_iff.mpr ⟨?_, by exact fnWithoutNullsF9⟩
  refine Bool.and_eq_true_iff.mpr ⟨?_, by exact fnWithoutNullsF8⟩
  refine Bool.and_eq_true_iff.mpr ⟨?_, by exact fnWithoutNullsF7⟩
  refine Bool.and_eq_true_iff.mpr ⟨?_, by exact fnWithoutNullsF6⟩
  refine Bool.and_eq_true_iff.mpr ⟨?_, by exact fnWithoutNullsF5⟩
  refine Bool.and_eq_true_iff.mpr ⟨?_, by exact fnWithoutNullsF4⟩
  refine Bool.and_eq_true_iff.mpr ⟨?_, by exact fnWithoutNullsF3⟩
  refine Bool.and_eq_true_iff.mpr ⟨?_, by exact fnWithoutNullsF2⟩
  refine Bool.and_eq_true_iff.mpr ⟨?_, by exact fnWithoutNullsF1⟩
  exact fnWithoutNullsF0
end Go.Proofs.YtfkecmlmnhbmoaaGreatDoor
