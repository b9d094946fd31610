import Derived.Test.YtfkecmlmnhbmoaaGreatDoorFnDepthFacts
namespace Go.Proofs.YtfkecmlmnhbmoaaGreatDoor
open Go.ChangeShapes Go.WideShapes Go.ChangeAt Go.RowKit
set_option maxRecDepth 100000 in
theorem fnDepthClosed : joinedFacts Tryz.prog 6 Tryz.f6 Rows.fnDepthSpec Rows.fnDepthRow = true := by
  unfold joinedFacts
  refine Bool.and_eq_true_iff.mpr ⟨?_, by exact fnDepthF31⟩
  refine Bool.and_eq_true_iff.mpr ⟨?_, by exact fnDepthF30⟩
  refine Bool.and_eq_true_iff.mpr ⟨?_, by exact fnDepthF29⟩
  refine Bool.and_eq_true_iff.mpr ⟨?_, by exact fnDepthF28⟩
  refine Bool.and_eq_true_iff.mpr ⟨?_, by exact fnDepthF27⟩
  refine Bool.and_eq_true_iff.mpr ⟨?_, by exact fnDepthF26⟩
  refine Bool.and_eq_true_iff.mpr ⟨?_, by exact fnDepthF25⟩
  refine Bool.and_eq_true_iff.mpr ⟨?_, by exact fnDepthF24⟩
  refine Bool.and_eq_true_iff.mpr ⟨?_, by exact fnDepthF23⟩
  refine Bool.and_eq_true_iff.mpr ⟨?_, by exact fnDepthF22⟩
  refine Bool.and_eq_true_iff.mpr ⟨?_, by exact fnDepthF21⟩
  refine Bool.and_eq_true_iff.mpr ⟨?_, by exact fnDepthF20⟩
  refine Bool.and_eq_true_iff.mpr ⟨?_, by exact fnDepthF19⟩
  refine Bool.and_eq_true_iff.mpr ⟨?_, by exact fnDepthF18⟩
  refine Bool.and_eq_true_iff.mpr ⟨?_, by exact fnDepthF17⟩
  refine Bool.and_eq_true_iff.mpr ⟨?_, by exact fnDepthF16⟩
  refine Bool.and_eq_true_iff.mpr ⟨?_, by exact fnDepthF15⟩
  refine Bool.and_eq_true_iff.mpr ⟨?_, by exact fnDepthF14⟩
  refine Bool.and_eq_true_iff.mpr ⟨?_, by exact fnDepthF13⟩
  refine Bool.and_eq_true_iff.mpr ⟨?_, by exact fnDepthF12⟩
  refine Bool.and_eq_true_iff.mpr ⟨?_, by exact fnDepthF11⟩
  refine Bool.and_eq_true_iff.mpr ⟨?_, by exact fnDepthF10⟩
  refine Bool.and_eq_true_iff.mpr ⟨?_, by exact fnDepthF9⟩
  refine Bool.and_eq_true_iff.mpr ⟨?_, by exact fnDepthF8⟩
  refine Bool.and_eq_true_iff.mpr ⟨?_, by exact fnDepthF7⟩
  refine Bool.and_eq_true_iff.mpr ⟨?_, by exact fnDepthF6⟩
  refine Bool.and_eq_true_iff.mpr ⟨?_, by exact fnDepthF5⟩
  refine Bool.and_eq_true_iff.mpr ⟨?_, by exact fnDepthF4⟩
  refine Bool.and_eq_true_iff.mpr ⟨?_, by exact fnDepthF3⟩
  refine Bool.and_eq_true_iff.mpr ⟨?_, by exact fnDepthF2⟩
  refine Bool.and_eq_true_iff.mpr ⟨?_, by exact fnDepthF1⟩
  exact fnDepthF0
end Go.Proofs.YtfkecmlmnhbmoaaGreatDoor
