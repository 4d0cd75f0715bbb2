import Derived.Test.YtdokbceiganhdaaGreatDoorRows
import Derived.JoinedOf
import Derived.KernelRfl
set_option maxRecDepth 100000
set_option maxHeartbeats 1000000
set_option linter.unusedVariables false
set_option linter.unusedSimpArgs false
set_option linter.deprecated false
set_option linter.all false
set_option linter.unusedSectionVars false
namespace Go.Proofs.YtdokbceiganhdaaGreatDoor.fnRoAttach
open Go
theorem j1 : (laidOutB Tryz.prog) = true:=by kernel_rfl
theorem j2 : (mapsRowed Tryz.prog) = true:=by kernel_rfl
theorem j3 : (Tryz.f3.params.all (Tryz.prog.readableRec ·)) = true:=by kernel_rfl
theorem j4 : (namedTie Tryz.prog Rows.fnRoAttachRow.named Rows.fnRoAttachSpec.vars) = true:=by kernel_rfl
theorem j5 : ((Rows.fnRoAttachRow.stops == [])) = true:=by kernel_rfl
theorem j6 : ((Tryz.prog.stops == [])) = true:=by kernel_rfl
theorem j7 : ((Rows.fnRoAttachRow.knobs == [])) = true:=by kernel_rfl
theorem j8 : ((Tryz.prog.stopKnobs == [])) = true:=by kernel_rfl
theorem j9 : ((Rows.fnRoAttachRow.inPlace == Tryz.prog.inPlace  3)) = true:=by kernel_rfl
theorem j10 : ((Rows.fnRoAttachRow.unfollowed == Tryz.prog.unfollowed  3)) = true:=by kernel_rfl
theorem j11 : ((Rows.fnRoAttachRow.recurses == Tryz.prog.recurses  3)) = true:=by kernel_rfl
theorem j12 : ((Rows.fnRoAttachRow.named == Tryz.prog.varsNamed  3)) = true:=by kernel_rfl
theorem j15 : ((Rows.fnRoAttachRow.mapsOut == Tryz.prog.mapsAmong Tryz.f3.resultTypes.toList)) = true:=by kernel_rfl
theorem j19 : (Tryz.f3.resultTypes.all (fun t=>Tryz.prog.readableRec t && decide (t < Tryz.prog.types.size))) = true:=by kernel_rfl
theorem j20 : ((Rows.fnRoAttachRow.ifacesOut == Tryz.f3.resultTypes.toList.any (Tryz.prog.ifacesRec ·))) = true:=by kernel_rfl
theorem j21 : ((Rows.fnRoAttachRow.loopsOut == Tryz.f3.resultTypes.toList.any (Tryz.prog.loopsFrom ·))) = true:=by kernel_rfl
theorem j22 : ((Rows.fnRoAttachRow.plainKeys == Tryz.prog.plainKeys)) = true:=by kernel_rfl
theorem j23 : (Rows.fnRoAttachRow.shortTexts.isNone) = true:=by kernel_rfl
theorem j24 : (Tryz.prog.stopsHeard) = true:=by kernel_rfl
theorem j25 : (Tryz.prog.mayEnter) = true:=by kernel_rfl
theorem j26 : ((Rows.fnRoAttachRow.lifted == Tryz.prog.liftsFinal)) = true:=by kernel_rfl
theorem j27 : ((Tryz.prog.make == some Rows.fnRoAttachRow.make)) = true:=by kernel_rfl
theorem j28 : ((Rows.fnRoAttachRow.kinds == (if Rows.fnRoAttachRow.domain.isEmpty then [] else Tryz.f3.params.toList.map fun t=>match Tryz.prog.underlying t with|some (.int k)=>some k|_=>none))) = true:=by kernel_rfl
theorem j29 : ((Rows.fnRoAttachRow.pinned == Rows.fnRoAttachRow.pinnedBy)) = true:=by kernel_rfl
end Go.Proofs.YtdokbceiganhdaaGreatDoor.fnRoAttach
