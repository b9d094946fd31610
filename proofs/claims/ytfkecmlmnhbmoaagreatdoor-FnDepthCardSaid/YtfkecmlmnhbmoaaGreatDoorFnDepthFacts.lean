import Derived.Test.YtfkecmlmnhbmoaaGreatDoorRows
import Derived.ProofKit
import Derived.Stop.Joined
namespace Go.Proofs.YtfkecmlmnhbmoaaGreatDoor
open Go.ChangeShapes Go.WideShapes Go.ChangeAt Go.RowKit
set_option maxHeartbeats 4000000
theorem fnDepthF0 : Rows.fnDepthRow.wf (OpenSpec.ofChange Rows.fnDepthSpec) = true := by kernel_rfl
theorem fnDepthF1 : laidOutB Tryz.prog = true := by kernel_rfl
theorem fnDepthF2 : mapsRowed Tryz.prog = true := by kernel_rfl
theorem fnDepthF3 : Tryz.f6.params.all (Tryz.prog.readableRec ·) = true := by kernel_rfl
theorem fnDepthF4 : namedTie Tryz.prog Rows.fnDepthRow.named Rows.fnDepthSpec.vars = true := by kernel_rfl
theorem fnDepthF5 : (Rows.fnDepthRow.stops == []) = true := by kernel_rfl
theorem fnDepthF6 : (Tryz.prog.stops == []) = true := by kernel_rfl
theorem fnDepthF7 : (Rows.fnDepthRow.knobs == []) = true := by kernel_rfl
theorem fnDepthF8 : (Tryz.prog.stopKnobs == []) = true := by kernel_rfl
theorem fnDepthF9 : (Rows.fnDepthRow.inPlace == Tryz.prog.inPlace 6) = true := by kernel_rfl
theorem fnDepthF10 : (Rows.fnDepthRow.unfollowed == Tryz.prog.unfollowed 6) = true := by kernel_rfl
theorem fnDepthF11 : (Rows.fnDepthRow.recurses == Tryz.prog.recurses 6) = true := by kernel_rfl
theorem fnDepthF12 : (Rows.fnDepthRow.named == Tryz.prog.varsNamed 6) = true := by kernel_rfl
theorem fnDepthF13 : (Rows.fnDepthRow.maps == (Tryz.f6.params.toList ++ Rows.fnDepthSpec.plain.varTypes Tryz.prog).any (Tryz.prog.mapsRec ·)) = true := by kernel_rfl
theorem fnDepthF14 : (Rows.fnDepthRow.ifaces == (Tryz.f6.params.toList ++ Rows.fnDepthSpec.plain.varTypes Tryz.prog).any (Tryz.prog.ifacesRec ·)) = true := by kernel_rfl
theorem fnDepthF15 : (Rows.fnDepthRow.mapsOut == Tryz.prog.mapsAmong Tryz.f6.resultTypes.toList) = true := by kernel_rfl
theorem fnDepthF16 : (Rows.fnDepthRow.loops == (Tryz.f6.params.toList ++ Rows.fnDepthSpec.plain.varTypes Tryz.prog).any (Tryz.prog.loopsFrom ·)) = true := by kernel_rfl
theorem fnDepthF17 : (Rows.fnDepthRow.wideKeys == (Tryz.f6.params.toList ++ Rows.fnDepthSpec.plain.varTypes Tryz.prog ++ Tryz.f6.resultTypes.toList).any (Tryz.prog.wideKeysFrom ·)) = true := by kernel_rfl
theorem fnDepthF18 : Rows.fnDepthSpec.vars.all (Tryz.prog.varReadable ·) = true := by kernel_rfl
theorem fnDepthF19 : Tryz.f6.resultTypes.all (fun t => Tryz.prog.readableRec t && decide (t < Tryz.prog.types.size)) = true := by kernel_rfl
theorem fnDepthF20 : (Rows.fnDepthRow.ifacesOut == Tryz.f6.resultTypes.toList.any (Tryz.prog.ifacesRec ·)) = true := by kernel_rfl
theorem fnDepthF21 : (Rows.fnDepthRow.loopsOut == Tryz.f6.resultTypes.toList.any (Tryz.prog.loopsFrom ·)) = true := by kernel_rfl
theorem fnDepthF22 : (Rows.fnDepthRow.plainKeys == Tryz.prog.plainKeys) = true := by kernel_rfl
theorem fnDepthF23 : Rows.fnDepthRow.shortTexts.isNone = true := by kernel_rfl
theorem fnDepthF24 : Tryz.prog.stopsHeard = true := by kernel_rfl
theorem fnDepthF25 : Tryz.prog.mayEnter = true := by kernel_rfl
theorem fnDepthF26 : (Rows.fnDepthRow.lifted == Tryz.prog.liftsFinal) = true := by kernel_rfl
theorem fnDepthF27 : (Tryz.prog.make == some Rows.fnDepthRow.make) = true := by kernel_rfl
theorem fnDepthF28 : (Rows.fnDepthRow.kinds == (if Rows.fnDepthRow.domain.isEmpty then [] else Tryz.f6.params.toList.map fun t => match Tryz.prog.underlying t with | some (.int k) => some k | _ => none)) = true := by kernel_rfl
theorem fnDepthF29 : (Rows.fnDepthRow.pinned == Rows.fnDepthRow.pinnedBy) = true := by kernel_rfl
theorem fnDepthF30 : (Rows.fnDepthRow.veiled == (Tryz.f6.params.toList ++ Rows.fnDepthSpec.plain.varTypes Tryz.prog ++ Tryz.f6.resultTypes.toList).any (Tryz.prog.veiledRec ·)) = true := by kernel_rfl
theorem fnDepthF31 : Rows.fnDepthRow.veiledFits Tryz.prog Tryz.f6.params.toList (Tryz.f6.params.toList ++ Rows.fnDepthSpec.plain.varTypes Tryz.prog ++ Tryz.f6.resultTypes.toList) = true := by kernel_rfl
end Go.Proofs.YtfkecmlmnhbmoaaGreatDoor
