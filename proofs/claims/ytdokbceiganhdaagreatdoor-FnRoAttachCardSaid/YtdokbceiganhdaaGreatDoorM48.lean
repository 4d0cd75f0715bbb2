import Derived.Test.YtdokbceiganhdaaGreatDoorM47
set_option maxRecDepth 100000
set_option maxHeartbeats 1000000
set_option linter.unusedVariables false
set_option linter.unusedSimpArgs false
set_option linter.deprecated false
set_option linter.all false
set_option linter.unusedSectionVars false
namespace Go.Proofs.YtdokbceiganhdaaGreatDoor.fnRoAttach
open Go
theorem k0 : (Rows.fnRoAttachRow.wf (OpenSpec.ofChange (OpenSpec.ofChange Rows.fnRoAttachSpec).bare)) = true:=by kernel_rfl
theorem k4 : (namedTie Tryz.prog Rows.fnRoAttachRow.named (OpenSpec.ofChange Rows.fnRoAttachSpec).bare.vars) = true:=by kernel_rfl
theorem k13 : ((Rows.fnRoAttachRow.maps == (Tryz.f3.params.toList ++ (OpenSpec.ofChange Rows.fnRoAttachSpec).bare.plain.varTypes Tryz.prog).any (Tryz.prog.mapsRec ·))) = true:=by kernel_rfl
theorem k14 : ((Rows.fnRoAttachRow.ifaces == (Tryz.f3.params.toList ++ (OpenSpec.ofChange Rows.fnRoAttachSpec).bare.plain.varTypes Tryz.prog).any (Tryz.prog.ifacesRec ·))) = true:=by kernel_rfl
theorem k16 : ((Rows.fnRoAttachRow.loops == (Tryz.f3.params.toList ++ (OpenSpec.ofChange Rows.fnRoAttachSpec).bare.plain.varTypes Tryz.prog).any (Tryz.prog.loopsFrom ·))) = true:=by kernel_rfl
theorem k17 : ((Rows.fnRoAttachRow.wideKeys == (Tryz.f3.params.toList ++ (OpenSpec.ofChange Rows.fnRoAttachSpec).bare.plain.varTypes Tryz.prog ++ Tryz.f3.resultTypes.toList).any (Tryz.prog.wideKeysFrom ·))) = true:=by kernel_rfl
theorem k18 : ((OpenSpec.ofChange Rows.fnRoAttachSpec).bare.vars.all (Tryz.prog.varReadable ·)) = true:=by kernel_rfl
theorem k30 : ((Rows.fnRoAttachRow.veiled == (Tryz.f3.params.toList ++ (OpenSpec.ofChange Rows.fnRoAttachSpec).bare.plain.varTypes Tryz.prog ++ Tryz.f3.resultTypes.toList).any (Tryz.prog.veiledRec ·))) = true:=by kernel_rfl
theorem k31 : (Rows.fnRoAttachRow.veiledFits Tryz.prog Tryz.f3.params.toList (Tryz.f3.params.toList ++ (OpenSpec.ofChange Rows.fnRoAttachSpec).bare.plain.varTypes Tryz.prog ++ Tryz.f3.resultTypes.toList)) = true:=by kernel_rfl
theorem band {a b : Bool} (h : a = true) (k : b = true) : (a && b) = true:=by rw [h,k];rfl
set_option maxRecDepth 1000000 in
theorem closed : joinedFacts Tryz.prog 3 Tryz.f3 (OpenSpec.ofChange Rows.fnRoAttachSpec).bare Rows.fnRoAttachRow = true:=by
  unfold joinedFacts
  exact (band (band (band (band (band (band (band (band (band (band (band (band (band (band (band (band (band (band (band (band (band (band (band (band (band (band (band (band (band (band (band k0 j1) j2) j3) k4) j5) j6) j7) j8) j9) j10) j11) j12) k13) k14) j15) k16) k17) k18) j19) j20) j21) j22) j23) j24) j25) j26) j27) j28) j29) k30) k31)
theorem prog_eq : Tryz.pinned.checked.prog = Tryz.prog:=by kernel_rfl
theorem closed2 : joinedFacts Tryz.pinned.checked.prog 3 Tryz.f3 (OpenSpec.ofChange Rows.fnRoAttachSpec).bare Rows.fnRoAttachRow = true:=by
  rw [prog_eq];exact closed
end Go.Proofs.YtdokbceiganhdaaGreatDoor.fnRoAttach
