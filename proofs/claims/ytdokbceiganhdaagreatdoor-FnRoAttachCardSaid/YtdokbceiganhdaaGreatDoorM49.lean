/- laws.FnRoAttach answers true, for every car that can be read; its row, and the card that ties the listed variables to the program. No condition of ours. -/
import Derived.Test.YtdokbceiganhdaaGreatDoorM46
import Derived.Test.YtdokbceiganhdaaGreatDoorM48
set_option maxRecDepth 100000
set_option maxHeartbeats 1000000
set_option linter.unusedVariables false
set_option linter.unusedSimpArgs false
set_option linter.deprecated false
set_option linter.all false
set_option linter.unusedSectionVars false
namespace Go.Proofs.YtdokbceiganhdaaGreatDoor.fnRoAttach
open Go Go.ChangeShapes Go.WideShapes Go.ChangeAt Go.RowKit
set_option maxRecDepth 100000 in
theorem said : Rows.FnRoAttachSaid :=
  OpenClaim.holds_of_cond (p:=Tryz.pinned) (s:=OpenSpec.ofChange Rows.fnRoAttachSpec) (c:=Rows.fnRoAttachRow) 3 Tryz.f3 rfl rfl rfl rfl rfl rfl rfl ⟨rfl,rfl,rfl,rfl,rfl⟩ rfl rfl rfl rfl rfl (by kernel_rfl) Tryz.func3 closed2
    (of_decide_eq_true (by kernel_rfl)) (by unfold Func.isWrapper;first|(rw [if_pos (by decide +kernel)];kernel_rfl)|(rw [if_neg (by decide +kernel)];exact ⟨rfl,rfl⟩))
    (fun os started H enc _ F=>by rw [OpenClaim.pre_eq_preRow];exact lifted os started H enc F)
theorem plain (f : FuncId) (fn : Func) (hf : Tryz.pinned.checked.prog.funcNamed "pub-droshky/laws.FnRoAttach" = some f) (hfn : Tryz.pinned.checked.prog.funcs[f]? = some fn) :
    true = Tryz.pinned.checked.prog.looks [] ∧ ∀ (j : Nat) t,fn.params[j]? = some t → Tryz.pinned.checked.prog.wantsStandIn t = false:=by
  obtain rfl : f = 3 := Option.some.inj ((show Tryz.prog.funcNamed "pub-droshky/laws.FnRoAttach" = some 3 by kernel_rfl).symm.trans hf) |>.symm
  obtain rfl : fn = Tryz.f3:=(Option.some.inj (Tryz.func3.symm.trans hfn)).symm
  refine ⟨by kernel_rfl,fun j t ht=>?_⟩
  rw [Tryz.params3] at ht
  have hm : t ∈ #[25,26,5,5]:=Array.mem_of_getElem? ht
  rcases (by simpa using hm : t = 25 ∨ t = 26 ∨ t = 5) with rfl|rfl|rfl
  · exact (show Tryz.prog.wantsStandIn 25 = false by kernel_rfl)
  · exact (show Tryz.prog.wantsStandIn 26 = false by kernel_rfl)
  · exact (show Tryz.prog.wantsStandIn 5 = false by kernel_rfl)
/-- The card. -/
theorem card : Rows.FnRoAttachCardSaid :=
  Claim7.holds_tied_plain_at .later [] _ _ _ _ said (fun _ h=>by cases h) (by kernel_rfl) (fun _ h=>by cases h) fnRoAttach_row_tie rfl ⟨rfl,rfl⟩ (by kernel_rfl) rfl plain (by kernel_rfl)
end Go.Proofs.YtdokbceiganhdaaGreatDoor.fnRoAttach
