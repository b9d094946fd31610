import Derived.Test.YtfkecmlmnhbmoaaGreatDoorFk52
namespace Go.Proofs.YtfkecmlmnhbmoaaGreatDoor
open Go.ChangeShapes Go.WideShapes Go.ChangeAt Go.RowKit
set_option maxRecDepth 100000 in
theorem fnFreshKeyClosed : joinedFacts Tryz.prog 3 Tryz.f3 Rows.fnFreshKeySpec Rows.fnFreshKeyRow = true := by
  unfold joinedFacts
  refine Bool.and_eq_true_iff.mpr ⟨?_, by exact fnFreshKeyF31⟩
  refine Bool.and_eq_true_iff.mpr ⟨?_, by exact fnFreshKeyF30⟩
  refine Bool.and_eq_true_iff.mpr ⟨?_, by exact fnFreshKeyF29⟩
  refine Bool.and_eq_true_iff.mpr ⟨?_, by exact fnFreshKeyF28⟩
  refine Bool.and_eq_true_iff.mpr ⟨?_, by exact fnFreshKeyF27⟩
  refine Bool.and_eq_true_iff.mpr ⟨?_, by exact fnFreshKeyF26⟩
  refine Bool.and_eq_true_iff.mpr ⟨?_, by exact fnFreshKeyF25⟩
  refine Bool.and_eq_true_iff.mpr ⟨?_, by exact fnFreshKeyF24⟩
  refine Bool.and_eq_true_iff.mpr ⟨?_, by exact fnFreshKeyF23⟩
  refine Bool.and_eq_true_iff.mpr ⟨?_, by exact fnFreshKeyF22⟩
  refine Bool.and_eq_true_iff.mpr ⟨?_, by exact fnFreshKeyF21⟩
  refine Bool.and_eq_true_iff.mpr ⟨?_, by exact fnFreshKeyF20⟩
  refine Bool.and_eq_true_iff.mpr ⟨?_, by exact fnFreshKeyF19⟩
  refine Bool.and_eq_true_iff.mpr ⟨?_, by exact fnFreshKeyF18⟩
  refine Bool.and_eq_true_iff.mpr ⟨?_, by exact fnFreshKeyF17⟩
  refine Bool.and_eq_true_iff.mpr ⟨?_, by exact fnFreshKeyF16⟩
  refine Bool.and_eq_true_iff.mpr ⟨?_, by exact fnFreshKeyF15⟩
  refine Bool.and_eq_true_iff.mpr ⟨?_, by exact fnFreshKeyF14⟩
  refine Bool.and_eq_true_iff.mpr ⟨?_, by exact fnFreshKeyF13⟩
  refine Bool.and_eq_true_iff.mpr ⟨?_, by exact fnFreshKeyF12⟩
  refine Bool.and_eq_true_iff.mpr ⟨?_, by exact fnFreshKeyF11⟩
  refine Bool.and_eq_true_iff.mpr ⟨?_, by exact fnFreshKeyF10⟩
  refine Bool.and_eq_true_iff.mpr ⟨?_, by exact fnFreshKeyF9⟩
  refine Bool.and_eq_true_iff.mpr ⟨?_, by exact fnFreshKeyF8⟩
  refine Bool.and_eq_true_iff.mpr ⟨?_, by exact fnFreshKeyF7⟩
  refine Bool.and_eq_true_iff.mpr ⟨?_, by exact fnFreshKeyF6⟩
  refine Bool.and_eq_true_iff.mpr ⟨?_, by exact fnFreshKeyF5⟩
  refine Bool.and_eq_true_iff.mpr ⟨?_, by exact fnFreshKeyF4⟩
  refine Bool.and_eq_true_iff.mpr ⟨?_, by exact fnFreshKeyF3⟩
  refine Bool.and_eq_true_iff.mpr ⟨?_, by exact fnFreshKeyF2⟩
  refine Bool.and_eq_true_iff.mpr ⟨?_, by exact fnFreshKeyF1⟩
  exact fnFreshKeyF0
end Go.Proofs.YtfkecmlmnhbmoaaGreatDoor
