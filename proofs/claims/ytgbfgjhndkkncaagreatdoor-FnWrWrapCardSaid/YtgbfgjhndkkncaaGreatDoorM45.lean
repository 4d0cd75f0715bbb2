import Derived.Test.YtgbfgjhndkkncaaGreatDoorRows
import Derived.JoinedOf
import Derived.KernelRfl
set_option maxRecDepth 100000
set_option maxHeartbeats 1000000
set_option linter.unusedVariables false
set_option linter.unusedSimpArgs false
namespace Go.Proofs.YtgbfgjhndkkncaaGreatDoor.fnWrWrap
open Go
theorem j0 : (Rows.fnWrWrapRow.wf (OpenSpec.ofChange Rows.fnWrWrapSpec)) = true := by kernel_rfl
theorem j1 : (laidOutB Tryz.prog) = true := by kernel_rfl
theorem j2 : (mapsRowed Tryz.prog) = true := by kernel_rfl
theorem j3 : (Tryz.f3.params.all (Tryz.prog.readableRec ·)) = true := by kernel_rfl
theorem j4 : (namedTie Tryz.prog Rows.fnWrWrapRow.named Rows.fnWrWrapSpec.vars) = true := by kernel_rfl
theorem j5 : ((Rows.fnWrWrapRow.stops == [])) = true := by kernel_rfl
theorem j6 : ((Tryz.prog.stops == [])) = true := by kernel_rfl
theorem j7 : ((Rows.fnWrWrapRow.knobs == [])) = true := by kernel_rfl
theorem j8 : ((Tryz.prog.stopKnobs == [])) = true := by kernel_rfl
theorem j9 : ((Rows.fnWrWrapRow.inPlace == Tryz.prog.inPlace  3)) = true := by kernel_rfl
theorem j10 : ((Rows.fnWrWrapRow.unfollowed == Tryz.prog.unfollowed  3)) = true := by kernel_rfl
theorem j11 : ((Rows.fnWrWrapRow.recurses == Tryz.prog.recurses  3)) = true := by kernel_rfl
theorem j12 : ((Rows.fnWrWrapRow.named == Tryz.prog.varsNamed  3)) = true := by kernel_rfl
theorem j13 : ((Rows.fnWrWrapRow.maps == (Tryz.f3.params.toList ++ Rows.fnWrWrapSpec.plain.varTypes Tryz.prog).any (Tryz.prog.mapsRec ·))) = true := by kernel_rfl
theorem j14 : ((Rows.fnWrWrapRow.ifaces == (Tryz.f3.params.toList ++ Rows.fnWrWrapSpec.plain.varTypes Tryz.prog).any (Tryz.prog.ifacesRec ·))) = true := by kernel_rfl
theorem j15 : ((Rows.fnWrWrapRow.mapsOut == Tryz.prog.mapsAmong Tryz.f3.resultTypes.toList)) = true := by kernel_rfl
theorem j16 : ((Rows.fnWrWrapRow.loops == (Tryz.f3.params.toList ++ Rows.fnWrWrapSpec.plain.varTypes Tryz.prog).any (Tryz.prog.loopsFrom ·))) = true := by kernel_rfl
theorem j17 : ((Rows.fnWrWrapRow.wideKeys == (Tryz.f3.params.toList ++ Rows.fnWrWrapSpec.plain.varTypes Tryz.prog ++ Tryz.f3.resultTypes.toList).any (Tryz.prog.wideKeysFrom ·))) = true := by kernel_rfl
theorem j18 : (Rows.fnWrWrapSpec.vars.all (Tryz.prog.varReadable ·)) = true := by kernel_rfl
theorem j19 : (Tryz.f3.resultTypes.all (fun t => Tryz.prog.readableRec t && decide (t < Tryz.prog.types.size))) = true := by kernel_rfl
theorem j20 : ((Rows.fnWrWrapRow.ifacesOut == Tryz.f3.resultTypes.toList.any (Tryz.prog.ifacesRec ·))) = true := by kernel_rfl
theorem j21 : ((Rows.fnWrWrapRow.loopsOut == Tryz.f3.resultTypes.toList.any (Tryz.prog.loopsFrom ·))) = true := by kernel_rfl
theorem j22 : ((Rows.fnWrWrapRow.plainKeys == Tryz.prog.plainKeys)) = true := by kernel_rfl
theorem j23 : (Rows.fnWrWrapRow.shortTexts.isNone) = true := by kernel_rfl
theorem j24 : (Tryz.prog.stopsHeard) = true := by kernel_rfl
theorem j25 : (Tryz.prog.mayEnter) = true := by kernel_rfl
theorem j26 : ((Rows.fnWrWrapRow.lifted == Tryz.prog.liftsFinal)) = true := by kernel_rfl
theorem j27 : ((Tryz.prog.make == some Rows.fnWrWrapRow.make)) = true := by kernel_rfl
theorem j28 : ((Rows.fnWrWrapRow.kinds == (if Rows.fnWrWrapRow.domain.isEmpty then [] else Tryz.f3.params.toList.map fun t => match Tryz.prog.underlying t with | some (.int k) => some k | _ => none))) = true := by kernel_rfl
theorem j29 : ((Rows.fnWrWrapRow.pinned == Rows.fnWrWrapRow.pinnedBy)) = true := by kernel_rfl
theorem j30 : ((Rows.fnWrWrapRow.veiled == (Tryz.f3.params.toList ++ Rows.fnWrWrapSpec.plain.varTypes Tryz.prog ++ Tryz.f3.resultTypes.toList).any (Tryz.prog.veiledRec ·))) = true := by kernel_rfl
theorem j31 : (Rows.fnWrWrapRow.veiledFits Tryz.prog Tryz.f3.params.toList (Tryz.f3.params.toList ++ Rows.fnWrWrapSpec.plain.varTypes Tryz.prog ++ Tryz.f3.resultTypes.toList)) = true := by kernel_rfl
end Go.Proofs.YtgbfgjhndkkncaaGreatDoor.fnWrWrap
