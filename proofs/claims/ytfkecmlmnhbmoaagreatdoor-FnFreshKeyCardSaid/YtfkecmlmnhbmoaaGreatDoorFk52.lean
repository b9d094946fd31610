import Derived.Test.YtfkecmlmnhbmoaaGreatDoorRows
import Derived.ProofKit
import Derived.Stop.Joined
namespace Go.Proofs.YtfkecmlmnhbmoaaGreatDoor
open Go.ChangeShapes Go.WideShapes Go.ChangeAt Go.RowKit
set_option maxHeartbeats 4000000
theorem fnFreshKeyF0 : Rows.fnFreshKeyRow.wf (OpenSpec.ofChange Rows.fnFreshKeySpec) = true := by kernel_rfl
theorem fnFreshKeyF1 : laidOutB Tryz.prog = true := by kernel_rfl
theorem fnFreshKeyF2 : mapsRowed Tryz.prog = true := by kernel_rfl
theorem fnFreshKeyF3 : Tryz.f3.params.all (Tryz.prog.readableRec ·) = true := by kernel_rfl
theorem fnFreshKeyF4 : namedTie Tryz.prog Rows.fnFreshKeyRow.named Rows.fnFreshKeySpec.vars = true := by kernel_rfl
theorem fnFreshKeyF5 : (Rows.fnFreshKeyRow.stops == []) = true := by kernel_rfl
theorem fnFreshKeyF6 : (Tryz.prog.stops == []) = true := by kernel_rfl
theorem fnFreshKeyF7 : (Rows.fnFreshKeyRow.knobs == []) = true := by kernel_rfl
theorem fnFreshKeyF8 : (Tryz.prog.stopKnobs == []) = true := by kernel_rfl
theorem fnFreshKeyF9 : (Rows.fnFreshKeyRow.inPlace == Tryz.prog.inPlace 3) = true := by kernel_rfl
theorem fnFreshKeyF10 : (Rows.fnFreshKeyRow.unfollowed == Tryz.prog.unfollowed 3) = true := by kernel_rfl
theorem fnFreshKeyF11 : (Rows.fnFreshKeyRow.recurses == Tryz.prog.recurses 3) = true := by kernel_rfl
theorem fnFreshKeyF12 : (Rows.fnFreshKeyRow.named == Tryz.prog.varsNamed 3) = true := by kernel_rfl
theorem fnFreshKeyF13 : (Rows.fnFreshKeyRow.maps == (Tryz.f3.params.toList ++ Rows.fnFreshKeySpec.plain.varTypes Tryz.prog).any (Tryz.prog.mapsRec ·)) = true := by kernel_rfl
theorem fnFreshKeyF14 : (Rows.fnFreshKeyRow.ifaces == (Tryz.f3.params.toList ++ Rows.fnFreshKeySpec.plain.varTypes Tryz.prog).any (Tryz.prog.ifacesRec ·)) = true := by kernel_rfl
theorem fnFreshKeyF15 : (Rows.fnFreshKeyRow.mapsOut == Tryz.prog.mapsAmong Tryz.f3.resultTypes.toList) = true := by kernel_rfl
theorem fnFreshKeyF16 : (Rows.fnFreshKeyRow.loops == (Tryz.f3.params.toList ++ Rows.fnFreshKeySpec.plain.varTypes Tryz.prog).any (Tryz.prog.loopsFrom ·)) = true := by kernel_rfl
theorem fnFreshKeyF17 : (Rows.fnFreshKeyRow.wideKeys == (Tryz.f3.params.toList ++ Rows.fnFreshKeySpec.plain.varTypes Tryz.prog ++ Tryz.f3.resultTypes.toList).any (Tryz.prog.wideKeysFrom ·)) = true := by kernel_rfl
theorem fnFreshKeyF18 : Rows.fnFreshKeySpec.vars.all (Tryz.prog.varReadable ·) = true := by kernel_rfl
theorem fnFreshKeyF19 : Tryz.f3.resultTypes.all (fun t => Tryz.prog.readableRec t && decide (t < Tryz.prog.types.size)) = true := by kernel_rfl
theorem fnFreshKeyF20 : (Rows.fnFreshKeyRow.ifacesOut == Tryz.f3.resultTypes.toList.any (Tryz.prog.ifacesRec ·)) = true := by kernel_rfl
theorem fnFreshKeyF21 : (Rows.fnFreshKeyRow.loopsOut == Tryz.f3.resultTypes.toList.any (Tryz.prog.loopsFrom ·)) = true := by kernel_rfl
theorem fnFreshKeyF22 : (Rows.fnFreshKeyRow.plainKeys == Tryz.prog.plainKeys) = true := by kernel_rfl
theorem fnFreshKeyF23 : Rows.fnFreshKeyRow.shortTexts.isNone = true := by kernel_rfl
theorem fnFreshKeyF24 : Tryz.prog.stopsHeard = true := by kernel_rfl
theorem fnFreshKeyF25 : Tryz.prog.mayEnter = true := by kernel_rfl
theorem fnFreshKeyF26 : (Rows.fnFreshKeyRow.lifted == Tryz.prog.liftsFinal) = true := by kernel_rfl
theorem fnFreshKeyF27 : (Tryz.prog.make == some Rows.fnFreshKeyRow.make) = true := by kernel_rfl
theorem fnFreshKeyF28 : (Rows.fnFreshKeyRow.kinds == (if Rows.fnFreshKeyRow.domain.isEmpty then [] else Tryz.f3.params.toList.map fun t => match Tryz.prog.underlying t with | some (.int k) => some k | _ => none)) = true := by kernel_rfl
theorem fnFreshKeyF29 : (Rows.fnFreshKeyRow.pinned == Rows.fnFreshKeyRow.pinnedBy) = true := by kernel_rfl
theorem fnFreshKeyF30 : (Rows.fnFreshKeyRow.veiled == (Tryz.f3.params.toList ++ Rows.fnFreshKeySpec.plain.varTypes Tryz.prog ++ Tryz.f3.resultTypes.toList).any (Tryz.prog.veiledRec ·)) = true := by kernel_rfl
theorem fnFreshKeyF31 : Rows.fnFreshKeyRow.veiledFits Tryz.prog Tryz.f3.params.toList (Tryz.f3.params.toList ++ Rows.fnFreshKeySpec.plain.varTypes Tryz.prog ++ Tryz.f3.resultTypes.toList) = true := by kernel_rfl
end Go.Proofs.YtfkecmlmnhbmoaaGreatDoor
