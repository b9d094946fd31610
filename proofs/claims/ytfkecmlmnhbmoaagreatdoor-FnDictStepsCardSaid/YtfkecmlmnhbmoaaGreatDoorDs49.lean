import Derived.Test.YtfkecmlmnhbmoaaGreatDoorRows
import Derived.ProofKit
import Derived.Stop.Joined
namespace Go.Proofs.YtfkecmlmnhbmoaaGreatDoor
open Go.ChangeShapes Go.WideShapes Go.ChangeAt Go.RowKit
set_option maxHeartbeats 4000000
theorem fnDictStepsF0 : Rows.fnDictStepsRow.wf (OpenSpec.ofChange Rows.fnDictStepsSpec) = true := by kernel_rfl
theorem fnDictStepsF1 : laidOutB Tryz.prog = true := by kernel_rfl
theorem fnDictStepsF2 : mapsRowed Tryz.prog = true := by kernel_rfl
theorem fnDictStepsF3 : Tryz.f5.params.all (Tryz.prog.readableRec ·) = true := by kernel_rfl
theorem fnDictStepsF4 : namedTie Tryz.prog Rows.fnDictStepsRow.named Rows.fnDictStepsSpec.vars = true := by kernel_rfl
theorem fnDictStepsF5 : (Rows.fnDictStepsRow.stops == []) = true := by kernel_rfl
theorem fnDictStepsF6 : (Tryz.prog.stops == []) = true := by kernel_rfl
theorem fnDictStepsF7 : (Rows.fnDictStepsRow.knobs == []) = true := by kernel_rfl
theorem fnDictStepsF8 : (Tryz.prog.stopKnobs == []) = true := by kernel_rfl
theorem fnDictStepsF9 : (Rows.fnDictStepsRow.inPlace == Tryz.prog.inPlace 5) = true := by kernel_rfl
theorem fnDictStepsF10 : (Rows.fnDictStepsRow.unfollowed == Tryz.prog.unfollowed 5) = true := by kernel_rfl
theorem fnDictStepsF11 : (Rows.fnDictStepsRow.recurses == Tryz.prog.recurses 5) = true := by kernel_rfl
theorem fnDictStepsF12 : (Rows.fnDictStepsRow.named == Tryz.prog.varsNamed 5) = true := by kernel_rfl
theorem fnDictStepsF13 : (Rows.fnDictStepsRow.maps == (Tryz.f5.params.toList ++ Rows.fnDictStepsSpec.plain.varTypes Tryz.prog).any (Tryz.prog.mapsRec ·)) = true := by kernel_rfl
theorem fnDictStepsF14 : (Rows.fnDictStepsRow.ifaces == (Tryz.f5.params.toList ++ Rows.fnDictStepsSpec.plain.varTypes Tryz.prog).any (Tryz.prog.ifacesRec ·)) = true := by kernel_rfl
theorem fnDictStepsF15 : (Rows.fnDictStepsRow.mapsOut == Tryz.prog.mapsAmong Tryz.f5.resultTypes.toList) = true := by kernel_rfl
theorem fnDictStepsF16 : (Rows.fnDictStepsRow.loops == (Tryz.f5.params.toList ++ Rows.fnDictStepsSpec.plain.varTypes Tryz.prog).any (Tryz.prog.loopsFrom ·)) = true := by kernel_rfl
theorem fnDictStepsF17 : (Rows.fnDictStepsRow.wideKeys == (Tryz.f5.params.toList ++ Rows.fnDictStepsSpec.plain.varTypes Tryz.prog ++ Tryz.f5.resultTypes.toList).any (Tryz.prog.wideKeysFrom ·)) = true := by kernel_rfl
theorem fnDictStepsF18 : Rows.fnDictStepsSpec.vars.all (Tryz.prog.varReadable ·) = true := by kernel_rfl
theorem fnDictStepsF19 : Tryz.f5.resultTypes.all (fun t => Tryz.prog.readableRec t && decide (t < Tryz.prog.types.size)) = true := by kernel_rfl
theorem fnDictStepsF20 : (Rows.fnDictStepsRow.ifacesOut == Tryz.f5.resultTypes.toList.any (Tryz.prog.ifacesRec ·)) = true := by kernel_rfl
theorem fnDictStepsF21 : (Rows.fnDictStepsRow.loopsOut == Tryz.f5.resultTypes.toList.any (Tryz.prog.loopsFrom ·)) = true := by kernel_rfl
theorem fnDictStepsF22 : (Rows.fnDictStepsRow.plainKeys == Tryz.prog.plainKeys) = true := by kernel_rfl
theorem fnDictStepsF23 : Rows.fnDictStepsRow.shortTexts.isNone = true := by kernel_rfl
theorem fnDictStepsF24 : Tryz.prog.stopsHeard = true := by kernel_rfl
theorem fnDictStepsF25 : Tryz.prog.mayEnter = true := by kernel_rfl
theorem fnDictStepsF26 : (Rows.fnDictStepsRow.lifted == Tryz.prog.liftsFinal) = true := by kernel_rfl
theorem fnDictStepsF27 : (Tryz.prog.make == some Rows.fnDictStepsRow.make) = true := by kernel_rfl
theorem fnDictStepsF28 : (Rows.fnDictStepsRow.kinds == (if Rows.fnDictStepsRow.domain.isEmpty then [] else Tryz.f5.params.toList.map fun t => match Tryz.prog.underlying t with | some (.int k) => some k | _ => none)) = true := by kernel_rfl
theorem fnDictStepsF29 : (Rows.fnDictStepsRow.pinned == Rows.fnDictStepsRow.pinnedBy) = true := by kernel_rfl
theorem fnDictStepsF30 : (Rows.fnDictStepsRow.veiled == (Tryz.f5.params.toList ++ Rows.fnDictStepsSpec.plain.varTypes Tryz.prog ++ Tryz.f5.resultTypes.toList).any (Tryz.prog.veiledRec ·)) = true := by kernel_rfl
theorem fnDictStepsF31 : Rows.fnDictStepsRow.veiledFits Tryz.prog Tryz.f5.params.toList (Tryz.f5.params.toList ++ Rows.fnDictStepsSpec.plain.varTypes Tryz.prog ++ Tryz.f5.resultTypes.toList) = true := by kernel_rfl
end Go.Proofs.YtfkecmlmnhbmoaaGreatDoor
