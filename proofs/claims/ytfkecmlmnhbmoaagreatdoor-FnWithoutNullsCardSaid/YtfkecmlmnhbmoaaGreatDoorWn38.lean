import Derived.Test.YtfkecmlmnhbmoaaGreatDoorRows
import Derived.ProofKit
import Derived.Stop.Joined
namespace Go.Proofs.YtfkecmlmnhbmoaaGreatDoor
open Go.ChangeShapes Go.WideShapes Go.ChangeAt Go.RowKit
set_option maxHeartbeats 4000000
theorem fnWithoutNullsF0 : Rows.fnWithoutNullsRow.wf (OpenSpec.ofChange Rows.fnWithoutNullsSpec) = true := by kernel_rfl
theorem fnWithoutNullsF1 : laidOutB Tryz.prog = true := by kernel_rfl
theorem fnWithoutNullsF2 : mapsRowed Tryz.prog = true := by kernel_rfl
theorem fnWithoutNullsF3 : Tryz.f4.params.all (Tryz.prog.readableRec ·) = true := by kernel_rfl
theorem fnWithoutNullsF4 : namedTie Tryz.prog Rows.fnWithoutNullsRow.named Rows.fnWithoutNullsSpec.vars = true := by kernel_rfl
theorem fnWithoutNullsF5 : (Rows.fnWithoutNullsRow.stops == []) = true := by kernel_rfl
theorem fnWithoutNullsF6 : (Tryz.prog.stops == []) = true := by kernel_rfl
theorem fnWithoutNullsF7 : (Rows.fnWithoutNullsRow.knobs == []) = true := by kernel_rfl
theorem fnWithoutNullsF8 : (Tryz.prog.stopKnobs == []) = true := by kernel_rfl
theorem fnWithoutNullsF9 : (Rows.fnWithoutNullsRow.inPlace == Tryz.prog.inPlace 4) = true := by kernel_rfl
theorem fnWithoutNullsF10 : (Rows.fnWithoutNullsRow.unfollowed == Tryz.prog.unfollowed 4) = true := by kernel_rfl
theorem fnWithoutNullsF11 : (Rows.fnWithoutNullsRow.recurses == Tryz.prog.recurses 4) = true := by kernel_rfl
theorem fnWithoutNullsF12 : (Rows.fnWithoutNullsRow.named == Tryz.prog.varsNamed 4) = true := by kernel_rfl
theorem fnWithoutNullsF13 : (Rows.fnWithoutNullsRow.maps == (Tryz.f4.params.toList ++ Rows.fnWithoutNullsSpec.plain.varTypes Tryz.prog).any (Tryz.prog.mapsRec ·)) = true := by kernel_rfl
theorem fnWithoutNullsF14 : (Rows.fnWithoutNullsRow.ifaces == (Tryz.f4.params.toList ++ Rows.fnWithoutNullsSpec.plain.varTypes Tryz.prog).any (Tryz.prog.ifacesRec ·)) = true := by kernel_rfl
theorem fnWithoutNullsF15 : (Rows.fnWithoutNullsRow.mapsOut == Tryz.prog.mapsAmong Tryz.f4.resultTypes.toList) = true := by kernel_rfl
theorem fnWithoutNullsF16 : (Rows.fnWithoutNullsRow.loops == (Tryz.f4.params.toList ++ Rows.fnWithoutNullsSpec.plain.varTypes Tryz.prog).any (Tryz.prog.loopsFrom ·)) = true := by kernel_rfl
theorem fnWithoutNullsF17 : (Rows.fnWithoutNullsRow.wideKeys == (Tryz.f4.params.toList ++ Rows.fnWithoutNullsSpec.plain.varTypes Tryz.prog ++ Tryz.f4.resultTypes.toList).any (Tryz.prog.wideKeysFrom ·)) = true := by kernel_rfl
theorem fnWithoutNullsF18 : Rows.fnWithoutNullsSpec.vars.all (Tryz.prog.varReadable ·) = true := by kernel_rfl
theorem fnWithoutNullsF19 : Tryz.f4.resultTypes.all (fun t => Tryz.prog.readableRec t && decide (t < Tryz.prog.types.size)) = true := by kernel_rfl
theorem fnWithoutNullsF20 : (Rows.fnWithoutNullsRow.ifacesOut == Tryz.f4.resultTypes.toList.any (Tryz.prog.ifacesRec ·)) = true := by kernel_rfl
theorem fnWithoutNullsF21 : (Rows.fnWithoutNullsRow.loopsOut == Tryz.f4.resultTypes.toList.any (Tryz.prog.loopsFrom ·)) = true := by kernel_rfl
theorem fnWithoutNullsF22 : (Rows.fnWithoutNullsRow.plainKeys == Tryz.prog.plainKeys) = true := by kernel_rfl
theorem fnWithoutNullsF23 : Rows.fnWithoutNullsRow.shortTexts.isNone = true := by kernel_rfl
theorem fnWithoutNullsF24 : Tryz.prog.stopsHeard = true := by kernel_rfl
theorem fnWithoutNullsF25 : Tryz.prog.mayEnter = true := by kernel_rfl
theorem fnWithoutNullsF26 : (Rows.fnWithoutNullsRow.lifted == Tryz.prog.liftsFinal) = true := by kernel_rfl
theorem fnWithoutNullsF27 : (Tryz.prog.make == some Rows.fnWithoutNullsRow.make) = true := by kernel_rfl
theorem fnWithoutNullsF28 : (Rows.fnWithoutNullsRow.kinds == (if Rows.fnWithoutNullsRow.domain.isEmpty then [] else Tryz.f4.params.toList.map fun t => match Tryz.prog.underlying t with | some (.int k) => some k | _ => none)) = true := by kernel_rfl
theorem fnWithoutNullsF29 : (Rows.fnWithoutNullsRow.pinned == Rows.fnWithoutNullsRow.pinnedBy) = true := by kernel_rfl
theorem fnWithoutNullsF30 : (Rows.fnWithoutNullsRow.veiled == (Tryz.f4.params.toList ++ Rows.fnWithoutNullsSpec.plain.varTypes Tryz.prog ++ Tryz.f4.resultTypes.toList).any (Tryz.prog.veiledRec ·)) = true := by kernel_rfl
theorem fnWithoutNullsF31 : Rows.fnWithoutNullsRow.veiledFits Tryz.prog Tryz.f4.params.toList (Tryz.f4.params.toList ++ Rows.fnWithoutNullsSpec.plain.varTypes Tryz.prog ++ Tryz.f4.resultTypes.toList) = true := by kernel_rfl
end Go.Proofs.YtfkecmlmnhbmoaaGreatDoor
