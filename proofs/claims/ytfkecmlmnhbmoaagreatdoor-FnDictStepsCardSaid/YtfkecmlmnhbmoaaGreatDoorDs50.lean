import Derived.Test.YtfkecmlmnhbmoaaGreatDoorDs49
namespace Go.Proofs.YtfkecmlmnhbmoaaGreatDoor
open Go.ChangeShapes Go.WideShapes Go.ChangeAt Go.RowKit
set_option maxRecDepth 100000 in
theorem fnDictStepsClosed : joinedFacts Tryz.prog 5 Tryz.f5 Rows.fnDictStepsSpec Rows.fnDictStepsRow = true := by
  unfold joinedFacts
  refine Bool.and_eq_true_iff.mpr ⟨?_, by exact fnDictStepsF31⟩
  refine Bool.and_eq_true_iff.mpr ⟨?_, by exact fnDictStepsF30⟩
  refine Bool.and_eq_true_iff.mpr ⟨?_, by exact fnDictStepsF29⟩
  refine Bool.and_eq_true_iff.mpr ⟨?_, by exact fnDictStepsF28⟩
  refine Bool.and_eq_true_iff.mpr ⟨?_, by exact fnDictStepsF27⟩
  refine Bool.and_eq_true_iff.mpr ⟨?_, by exact fnDictStepsF26⟩
  refine Bool.and_eq_true_iff.mpr ⟨?_, by exact fnDictStepsF25⟩
  refine Bool.and_eq_true_iff.mpr ⟨?_, by exact fnDictStepsF24⟩
  refine Bool.and_eq_true_iff.mpr ⟨?_, by exact fnDictStepsF23⟩
  refine Bool.and_eq_true_iff.mpr ⟨?_, by exact fnDictStepsF22⟩
  refine Bool.and_eq_true_iff.mpr ⟨?_, by exact fnDictStepsF21⟩
  refine Bool.and_eq_true_iff.mpr ⟨?_, by exact fnDictStepsF20⟩
  refine Bool.and_eq_true_iff.mpr ⟨?_, by exact fnDictStepsF19⟩
  refine Bool.and_eq_true_iff.mpr ⟨?_, by exact fnDictStepsF18⟩
  refine Bool.and_eq_true_iff.mpr ⟨?_, by exact fnDictStepsF17⟩
  refine Bool.and_eq_true_iff.mpr ⟨?_, by exact fnDictStepsF16⟩
  refine Bool.and_eq_true_iff.mpr ⟨?_, by exact fnDictStepsF15⟩
  refine Bool.and_eq_true_iff.mpr ⟨?_, by exact fnDictStepsF14⟩
  refine Bool.and_eq_true_iff.mpr ⟨?_, by exact fnDictStepsF13⟩
  refine Bool.and_eq_true_iff.mpr ⟨?_, by exact fnDictStepsF12⟩
  refine Bool.and_eq_true_iff.mpr ⟨?_, by exact fnDictStepsF11⟩
  refine Bool.and_eq_true_iff.mpr ⟨?_, by exact fnDictStepsF10⟩
  refine Bool.and_eq_true_iff.mpr ⟨?_, by exact fnDictStepsF9⟩
  refine Bool.and_eq_true_iff.mpr ⟨?_, by exact fnDictStepsF8⟩
  refine Bool.and_eq_true_iff.mpr ⟨?_, by exact fnDictStepsF7⟩
  refine Bool.and_eq_true_iff.mpr ⟨?_, by exact fnDictStepsF6⟩
  refine Bool.and_eq_true_iff.mpr ⟨?_, by exact fnDictStepsF5⟩
  refine Bool.and_eq_true_iff.mpr ⟨?_, by exact fnDictStepsF4⟩
  refine Bool.and_eq_true_iff.mpr ⟨?_, by exact fnDictStepsF3⟩
  refine Bool.and_eq_true_iff.mpr ⟨?_, by exact fnDictStepsF2⟩
  refine Bool.and_eq_true_iff.mpr ⟨?_, by exact fnDictStepsF1⟩
  exact fnDictStepsF0
end Go.Proofs.YtfkecmlmnhbmoaaGreatDoor
