import Derived.Test.YtdokbceiganhdaaGreatDoorM2
import Derived.Test.YtdokbceiganhdaaGreatDoorM6
import Derived.Deep.LoopGhost
set_option maxRecDepth 100000
set_option maxHeartbeats 1000000
set_option linter.unusedVariables false
set_option linter.unusedSimpArgs false
set_option linter.deprecated false
set_option linter.all false
set_option linter.unusedSectionVars false
namespace Go.Proofs.Wx
open Go Go.RowKit
theorem Blk.newAt {w : World} {n : Nat} {cs : List Value} {T : TypeId} {fr : Nat × Nat} (e : n = w.heap.size) : Blk (w.alloc (.cells cs.toArray T fr)) n cs T fr:=e ▸ Blk.new
theorem shNewReader {w : World} {r sb : Nat} {xs : List UInt8} (h : Rdr w r sb xs 0) :
    Calls Tryz.prog 174 #[.iface 74 (.pointer (some ⟨r,0,none⟩))] w fun e w' =>
      ∃ z q,e = .returned (.iface 362 (.pointer (some ⟨z,0,none⟩))) ∧ Slk w' z q r sb xs 0 ∧ w.heap.size ≤ z ∧ w.heap.size ≤ q ∧ Fr [] w w':=by
  have hlt:=h.lt
  have hge:=h.ge
  go_enter Tryz.func174,Tryz.ntmps174
  go_wp2
  go_ret
  refine ⟨w.heap.size + 1,w.heap.size,rfl,⟨⟨List.replicate 32 (.int .u8 0),by simp,?_⟩,⟨⟨0,0,0,?_,by omega⟩,h.fr (S:=[]) (by exact frP) (by simp) (by simp),by omega,by omega⟩,by omega,by omega,by omega,by omega⟩,by omega,by omega,by exact frP⟩
  · exact Blk.conv (Blk.newAt (by simp)) rfl
  · exact blkP
theorem ph_info : (Tryz.prog.info? 346).map (fun i=>(i.zero,i.size,i.bytes)) = some (some (.int .u8 0),1,1):=by kernel_rfl
theorem int_info : (Tryz.prog.info? 3).map (fun i=>(i.zero,i.size,i.bytes)) = some (some (.int .i64 0),1,8):=by kernel_rfl
theorem cells_rep (v : Value) (hv : v.cells = #[v]) (n : Nat) : madeCells v.cells (n * 1) = (List.replicate n v).toArray:=by
  have:=toList_madeCells_one v (n * 1)
  rw [Nat.mul_one] at *
  rw [← this,hv]
theorem make_ph (w : World) : (Instr.makeSlice 345 (.int .i64 0) (.int .i64 10)).run Tryz.prog w = .ok (.slice (some ⟨w.heap.size,0,none⟩) 0 10) (w.alloc (.cells (List.replicate 10 (Value.int .u8 0)).toArray 346 (0,0))):=by
  obtain ⟨i,hi,hz,hs,hby⟩:=info_parts ph_info
  have hr:=run_make (P:=Tryz.prog) w _ _ i (.int .u8 0) ph_slice hi hz .i64 .i64 0 10 (by omega) (by omega) (by rw [hby];omega) (by omega)
  rw [hs] at hr
  have e:=cells_rep (.int .u8 0) rfl 10
  rw [← e];exact hr
theorem make_int (w : World) : (Instr.makeSlice 53 (.int .i64 0) (.int .i64 10)).run Tryz.prog w = .ok (.slice (some ⟨w.heap.size,0,none⟩) 0 10) (w.alloc (.cells (List.replicate 10 (Value.int .i64 0)).toArray 3 (0,0))):=by
  obtain ⟨i,hi,hz,hs,hby⟩:=info_parts int_info
  have hr:=run_make (P:=Tryz.prog) w _ _ i (.int .i64 0) int_slice hi hz .i64 .i64 0 10 (by omega) (by omega) (by rw [hby];omega) (by omega)
  rw [hs] at hr
  have e:=cells_rep (.int .i64 0) rfl 10
  rw [← e];exact hr
theorem newDecoder {w : World} {r sb : Nat} {xs : List UInt8} (h : Rdr w r sb xs 0) :
    Calls Tryz.prog 146 #[.agg #[.bool true,.bool false,.int .i64 0,.bool false,.bool false,.bool false,.bool false],.iface 74 (.pointer (some ⟨r,0,none⟩))] w fun e w' =>
      ∃ d z q sk lf cs cl,e = .returned (.pointer (some ⟨d,0,none⟩)) ∧ Dec w' d z q r sb sk lf xs 0 cs 0 0 cl 0 ∧ (w.heap.size ≤ d ∧ w.heap.size ≤ z ∧ w.heap.size ≤ q ∧ w.heap.size ≤ sk ∧ w.heap.size ≤ lf) ∧ Fr [] w w':=by
  have hlt:=h.lt
  have hge:=h.ge
  have hrd:=fun (w' : World) (hf : Fr [] w w')=>shNewReader (h.fr hf (by simp) (by simp))
  have hm1:=make_ph
  have hm2:=make_int
  go_enter Tryz.func146,Tryz.ntmps146
  go_wp2_with fail
  refine wp_region_tree mixed (fun i=>if i = 0 then .look else if i = 1 ∨ i = 5 ∨ i = 7 then .free else if i = 2 then .grow else .make)
    (let e : ET:=.one 5 .free (.one 6 .make (.one 7 .free .nil));.one 0 .look (.one 1 .free (.three 2 .grow (.two 3 .make (.one 4 .make e) 4 .make (.one 3 .make e)) 3 .make (.two 2 .grow (.one 4 .make e) 4 .make (.one 2 .grow e)) 4 .make (.two 2 .grow (.one 3 .make e) 3 .make (.one 2 .grow e))))) (by kernel_rfl) ?_
  go_wp2_with (first
    | (go_at_call 174;refine (hrd _ (by exact frP)).mono ?_;rintro e w1 ⟨z,q,rfl,hS1,hz,hq,hF1⟩;try go_simp;refine hK _ _ (fun b hb=>hF1.block b hb (by simp)) ?_)
    | (with_reducible refine wpET_id ?_;(first|(refine wpET_nil ?_;skip)|(refine wpET_look rfl rfl rfl (fun K hK=>?_);go_simp)|(refine wpET_free rfl rfl (fun K hK=>?_);go_simp)|(refine wpET_make rfl rfl (fun K hK=>?_);go_simp;try refine ⟨_,_,⟨rfl,rfl⟩,?_⟩)|(refine wpET_grow rfl rfl (fun K hK=>?_);go_simp)|(refine wpET_two ?_ ?_)|(refine wpET_three ?_ ?_ ?_)))
    | (with_reducible refine eOp_id ?_;(first|(refine eOp_make rfl rfl (fun K hK=>?_);go_simp;try refine ⟨_,_,⟨rfl,rfl⟩,?_⟩)|(refine eOp_grow rfl rfl (fun K hK=>?_);go_simp))))
  all_goals
    have hsz:=hF1.size
    have hqz : z < w1.heap.size ∧ q < w1.heap.size:=by
      obtain ⟨⟨scr,_,hB⟩,⟨⟨l,s,b,hb,_⟩,_⟩,_⟩:=hS1
      exact ⟨hB.lt,hb.lt⟩
    have hrs:=hS1.hs.hr.lt
    simp at hsz hz hq
  · go_ret
    refine ⟨w1.heap.size + 1 + 1,z,q,w1.heap.size,w1.heap.size + 1,List.replicate 10 (.int .u8 0),List.replicate 10 (.int .i64 0),rfl,⟨by (exact Blk.conv (by repeat (first|(with_reducible assumption)|(with_reducible apply Blk.drew)|(with_reducible apply Blk.set)|(with_reducible apply Blk.setNe (by (first|(with_reducible assumption)|(simp;done)|(simp;omega))))|(with_reducible refine Blk.newAt ?_;(simp;done))|(with_reducible apply Blk.alloc)|fail)) (by first|rfl|(simp;done))),hS1.fr (S:=[]) (by (repeat (first|exact Fr.refl|(with_reducible refine Fr.drew ?_)|(with_reducible refine Fr.setCell (by simp;done) ?_)|(with_reducible refine Fr.setCell (by simp;omega) ?_)|(with_reducible refine Fr.alloc ?_)))) (by simp) (by simp) (by simp) (by simp),by (exact Blk.conv (by repeat (first|(with_reducible assumption)|(with_reducible apply Blk.drew)|(with_reducible apply Blk.set)|(with_reducible apply Blk.setNe (by (first|(with_reducible assumption)|(simp;done)|(simp;omega))))|(with_reducible refine Blk.newAt ?_;(simp;done))|(with_reducible apply Blk.alloc)|fail)) (by first|rfl|(simp;done))),by (exact Blk.conv (by repeat (first|(with_reducible assumption)|(with_reducible apply Blk.drew)|(with_reducible apply Blk.set)|(with_reducible apply Blk.setNe (by (first|(with_reducible assumption)|(simp;done)|(simp;omega))))|(with_reducible refine Blk.newAt ?_;(simp;done))|(with_reducible apply Blk.alloc)|fail)) (by first|rfl|(simp;done))),by simp,by simp,by omega,by omega,by omega,by omega⟩,by omega,?_⟩
    exact Fr.trans (S:=[]) (S':=[]) (w':=w1) (Fr.trans (S:=[]) (S':=[]) (by (repeat (first|exact Fr.refl|(with_reducible refine Fr.drew ?_)|(with_reducible refine Fr.setCell (by simp;done) ?_)|(with_reducible refine Fr.setCell (by simp;omega) ?_)|(with_reducible refine Fr.alloc ?_)))) hF1 (by simp)) (by (repeat (first|exact Fr.refl|(with_reducible refine Fr.drew ?_)|(with_reducible refine Fr.setCell (by simp;done) ?_)|(with_reducible refine Fr.setCell (by simp;omega) ?_)|(with_reducible refine Fr.alloc ?_)))) (by simp)
  · go_ret
    refine ⟨w1.heap.size + 1 + 1,z,q,w1.heap.size + 1,w1.heap.size,List.replicate 10 (.int .u8 0),List.replicate 10 (.int .i64 0),rfl,⟨by (exact Blk.conv (by repeat (first|(with_reducible assumption)|(with_reducible apply Blk.drew)|(with_reducible apply Blk.set)|(with_reducible apply Blk.setNe (by (first|(with_reducible assumption)|(simp;done)|(simp;omega))))|(with_reducible refine Blk.newAt ?_;(simp;done))|(with_reducible apply Blk.alloc)|fail)) (by first|rfl|(simp;done))),hS1.fr (S:=[]) (by (repeat (first|exact Fr.refl|(with_reducible refine Fr.drew ?_)|(with_reducible refine Fr.setCell (by simp;done) ?_)|(with_reducible refine Fr.setCell (by simp;omega) ?_)|(with_reducible refine Fr.alloc ?_)))) (by simp) (by simp) (by simp) (by simp),by (exact Blk.conv (by repeat (first|(with_reducible assumption)|(with_reducible apply Blk.drew)|(with_reducible apply Blk.set)|(with_reducible apply Blk.setNe (by (first|(with_reducible assumption)|(simp;done)|(simp;omega))))|(with_reducible refine Blk.newAt ?_;(simp;done))|(with_reducible apply Blk.alloc)|fail)) (by first|rfl|(simp;done))),by (exact Blk.conv (by repeat (first|(with_reducible assumption)|(with_reducible apply Blk.drew)|(with_reducible apply Blk.set)|(with_reducible apply Blk.setNe (by (first|(with_reducible assumption)|(simp;done)|(simp;omega))))|(with_reducible refine Blk.newAt ?_;(simp;done))|(with_reducible apply Blk.alloc)|fail)) (by first|rfl|(simp;done))),by simp,by simp,by omega,by omega,by omega,by omega⟩,by omega,?_⟩
    exact Fr.trans (S:=[]) (S':=[]) (w':=w1) (Fr.trans (S:=[]) (S':=[]) (by (repeat (first|exact Fr.refl|(with_reducible refine Fr.drew ?_)|(with_reducible refine Fr.setCell (by simp;done) ?_)|(with_reducible refine Fr.setCell (by simp;omega) ?_)|(with_reducible refine Fr.alloc ?_)))) hF1 (by simp)) (by (repeat (first|exact Fr.refl|(with_reducible refine Fr.drew ?_)|(with_reducible refine Fr.setCell (by simp;done) ?_)|(with_reducible refine Fr.setCell (by simp;omega) ?_)|(with_reducible refine Fr.alloc ?_)))) (by simp)
  · go_ret
    have hB0:=Fr.blk hF1 (b:=w.heap.size + 1) (by repeat (first|(with_reducible apply Blk.drew)|(with_reducible refine Blk.newAt ?_;(simp;done))|(with_reducible apply Blk.alloc))) (by simp)
    refine ⟨w1.heap.size + 1,z,q,w.heap.size + 1,w1.heap.size,List.replicate 10 (.int .u8 0),List.replicate 10 (.int .i64 0),rfl,⟨by (exact Blk.conv (by repeat (first|(with_reducible assumption)|(with_reducible apply Blk.drew)|(with_reducible apply Blk.set)|(with_reducible apply Blk.setNe (by (first|(with_reducible assumption)|(simp;done)|(simp;omega))))|(with_reducible refine Blk.newAt ?_;(simp;done))|(with_reducible apply Blk.alloc)|fail)) (by first|rfl|(simp;done))),hS1.fr (S:=[]) (by (repeat (first|exact Fr.refl|(with_reducible refine Fr.drew ?_)|(with_reducible refine Fr.setCell (by simp;done) ?_)|(with_reducible refine Fr.setCell (by simp;omega) ?_)|(with_reducible refine Fr.alloc ?_)))) (by simp) (by simp) (by simp) (by simp),by (exact Blk.conv (by repeat (first|(with_reducible assumption)|(with_reducible apply Blk.drew)|(with_reducible apply Blk.set)|(with_reducible apply Blk.setNe (by (first|(with_reducible assumption)|(simp;done)|(simp;omega))))|(with_reducible refine Blk.newAt ?_;(simp;done))|(with_reducible apply Blk.alloc)|fail)) (by first|rfl|(simp;done))),by (exact Blk.conv (by repeat (first|(with_reducible assumption)|(with_reducible apply Blk.drew)|(with_reducible apply Blk.set)|(with_reducible apply Blk.setNe (by (first|(with_reducible assumption)|(simp;done)|(simp;omega))))|(with_reducible refine Blk.newAt ?_;(simp;done))|(with_reducible apply Blk.alloc)|fail)) (by first|rfl|(simp;done))),by simp,by simp,by omega,by omega,by omega,by omega⟩,by omega,?_⟩
    exact Fr.trans (S:=[]) (S':=[]) (w':=w1) (Fr.trans (S:=[]) (S':=[]) (by (repeat (first|exact Fr.refl|(with_reducible refine Fr.drew ?_)|(with_reducible refine Fr.setCell (by simp;done) ?_)|(with_reducible refine Fr.setCell (by simp;omega) ?_)|(with_reducible refine Fr.alloc ?_)))) hF1 (by simp)) (by (repeat (first|exact Fr.refl|(with_reducible refine Fr.drew ?_)|(with_reducible refine Fr.setCell (by simp;done) ?_)|(with_reducible refine Fr.setCell (by simp;omega) ?_)|(with_reducible refine Fr.alloc ?_)))) (by simp)
  · go_ret
    have hB0:=Fr.blk hF1 (b:=w.heap.size + 1) (by repeat (first|(with_reducible apply Blk.drew)|(with_reducible refine Blk.newAt ?_;(simp;done))|(with_reducible apply Blk.alloc))) (by simp)
    have hB1:=Fr.blk hF1 (b:=w.heap.size + 1 + 1) (by repeat (first|(with_reducible apply Blk.drew)|(with_reducible refine Blk.newAt ?_;(simp;done))|(with_reducible apply Blk.alloc))) (by simp)
    refine ⟨w1.heap.size,z,q,w.heap.size + 1,w.heap.size + 1 + 1,List.replicate 10 (.int .u8 0),List.replicate 10 (.int .i64 0),rfl,⟨by (exact Blk.conv (by repeat (first|(with_reducible assumption)|(with_reducible apply Blk.drew)|(with_reducible apply Blk.set)|(with_reducible apply Blk.setNe (by (first|(with_reducible assumption)|(simp;done)|(simp;omega))))|(with_reducible refine Blk.newAt ?_;(simp;done))|(with_reducible apply Blk.alloc)|fail)) (by first|rfl|(simp;done))),hS1.fr (S:=[]) (by (repeat (first|exact Fr.refl|(with_reducible refine Fr.drew ?_)|(with_reducible refine Fr.setCell (by simp;done) ?_)|(with_reducible refine Fr.setCell (by simp;omega) ?_)|(with_reducible refine Fr.alloc ?_)))) (by simp) (by simp) (by simp) (by simp),by (exact Blk.conv (by repeat (first|(with_reducible assumption)|(with_reducible apply Blk.drew)|(with_reducible apply Blk.set)|(with_reducible apply Blk.setNe (by (first|(with_reducible assumption)|(simp;done)|(simp;omega))))|(with_reducible refine Blk.newAt ?_;(simp;done))|(with_reducible apply Blk.alloc)|fail)) (by first|rfl|(simp;done))),by (exact Blk.conv (by repeat (first|(with_reducible assumption)|(with_reducible apply Blk.drew)|(with_reducible apply Blk.set)|(with_reducible apply Blk.setNe (by (first|(with_reducible assumption)|(simp;done)|(simp;omega))))|(with_reducible refine Blk.newAt ?_;(simp;done))|(with_reducible apply Blk.alloc)|fail)) (by first|rfl|(simp;done))),by simp,by simp,by omega,by omega,by omega,by omega⟩,by omega,?_⟩
    exact Fr.trans (S:=[]) (S':=[]) (w':=w1) (Fr.trans (S:=[]) (S':=[]) (by (repeat (first|exact Fr.refl|(with_reducible refine Fr.drew ?_)|(with_reducible refine Fr.setCell (by simp;done) ?_)|(with_reducible refine Fr.setCell (by simp;omega) ?_)|(with_reducible refine Fr.alloc ?_)))) hF1 (by simp)) (by (repeat (first|exact Fr.refl|(with_reducible refine Fr.drew ?_)|(with_reducible refine Fr.setCell (by simp;done) ?_)|(with_reducible refine Fr.setCell (by simp;omega) ?_)|(with_reducible refine Fr.alloc ?_)))) (by simp)
  · go_ret
    have hB0:=Fr.blk hF1 (b:=w.heap.size + 1) (by repeat (first|(with_reducible apply Blk.drew)|(with_reducible refine Blk.newAt ?_;(simp;done))|(with_reducible apply Blk.alloc))) (by simp)
    refine ⟨w1.heap.size + 1,z,q,w1.heap.size,w.heap.size + 1,List.replicate 10 (.int .u8 0),List.replicate 10 (.int .i64 0),rfl,⟨by (exact Blk.conv (by repeat (first|(with_reducible assumption)|(with_reducible apply Blk.drew)|(with_reducible apply Blk.set)|(with_reducible apply Blk.setNe (by (first|(with_reducible assumption)|(simp;done)|(simp;omega))))|(with_reducible refine Blk.newAt ?_;(simp;done))|(with_reducible apply Blk.alloc)|fail)) (by first|rfl|(simp;done))),hS1.fr (S:=[]) (by (repeat (first|exact Fr.refl|(with_reducible refine Fr.drew ?_)|(with_reducible refine Fr.setCell (by simp;done) ?_)|(with_reducible refine Fr.setCell (by simp;omega) ?_)|(with_reducible refine Fr.alloc ?_)))) (by simp) (by simp) (by simp) (by simp),by (exact Blk.conv (by repeat (first|(with_reducible assumption)|(with_reducible apply Blk.drew)|(with_reducible apply Blk.set)|(with_reducible apply Blk.setNe (by (first|(with_reducible assumption)|(simp;done)|(simp;omega))))|(with_reducible refine Blk.newAt ?_;(simp;done))|(with_reducible apply Blk.alloc)|fail)) (by first|rfl|(simp;done))),by (exact Blk.conv (by repeat (first|(with_reducible assumption)|(with_reducible apply Blk.drew)|(with_reducible apply Blk.set)|(with_reducible apply Blk.setNe (by (first|(with_reducible assumption)|(simp;done)|(simp;omega))))|(with_reducible refine Blk.newAt ?_;(simp;done))|(with_reducible apply Blk.alloc)|fail)) (by first|rfl|(simp;done))),by simp,by simp,by omega,by omega,by omega,by omega⟩,by omega,?_⟩
    exact Fr.trans (S:=[]) (S':=[]) (w':=w1) (Fr.trans (S:=[]) (S':=[]) (by (repeat (first|exact Fr.refl|(with_reducible refine Fr.drew ?_)|(with_reducible refine Fr.setCell (by simp;done) ?_)|(with_reducible refine Fr.setCell (by simp;omega) ?_)|(with_reducible refine Fr.alloc ?_)))) hF1 (by simp)) (by (repeat (first|exact Fr.refl|(with_reducible refine Fr.drew ?_)|(with_reducible refine Fr.setCell (by simp;done) ?_)|(with_reducible refine Fr.setCell (by simp;omega) ?_)|(with_reducible refine Fr.alloc ?_)))) (by simp)
  · go_ret
    have hB0:=Fr.blk hF1 (b:=w.heap.size + 1) (by repeat (first|(with_reducible apply Blk.drew)|(with_reducible refine Blk.newAt ?_;(simp;done))|(with_reducible apply Blk.alloc))) (by simp)
    have hB1:=Fr.blk hF1 (b:=w.heap.size + 1 + 1) (by repeat (first|(with_reducible apply Blk.drew)|(with_reducible refine Blk.newAt ?_;(simp;done))|(with_reducible apply Blk.alloc))) (by simp)
    refine ⟨w1.heap.size,z,q,w.heap.size + 1 + 1,w.heap.size + 1,List.replicate 10 (.int .u8 0),List.replicate 10 (.int .i64 0),rfl,⟨by (exact Blk.conv (by repeat (first|(with_reducible assumption)|(with_reducible apply Blk.drew)|(with_reducible apply Blk.set)|(with_reducible apply Blk.setNe (by (first|(with_reducible assumption)|(simp;done)|(simp;omega))))|(with_reducible refine Blk.newAt ?_;(simp;done))|(with_reducible apply Blk.alloc)|fail)) (by first|rfl|(simp;done))),hS1.fr (S:=[]) (by (repeat (first|exact Fr.refl|(with_reducible refine Fr.drew ?_)|(with_reducible refine Fr.setCell (by simp;done) ?_)|(with_reducible refine Fr.setCell (by simp;omega) ?_)|(with_reducible refine Fr.alloc ?_)))) (by simp) (by simp) (by simp) (by simp),by (exact Blk.conv (by repeat (first|(with_reducible assumption)|(with_reducible apply Blk.drew)|(with_reducible apply Blk.set)|(with_reducible apply Blk.setNe (by (first|(with_reducible assumption)|(simp;done)|(simp;omega))))|(with_reducible refine Blk.newAt ?_;(simp;done))|(with_reducible apply Blk.alloc)|fail)) (by first|rfl|(simp;done))),by (exact Blk.conv (by repeat (first|(with_reducible assumption)|(with_reducible apply Blk.drew)|(with_reducible apply Blk.set)|(with_reducible apply Blk.setNe (by (first|(with_reducible assumption)|(simp;done)|(simp;omega))))|(with_reducible refine Blk.newAt ?_;(simp;done))|(with_reducible apply Blk.alloc)|fail)) (by first|rfl|(simp;done))),by simp,by simp,by omega,by omega,by omega,by omega⟩,by omega,?_⟩
    exact Fr.trans (S:=[]) (S':=[]) (w':=w1) (Fr.trans (S:=[]) (S':=[]) (by (repeat (first|exact Fr.refl|(with_reducible refine Fr.drew ?_)|(with_reducible refine Fr.setCell (by simp;done) ?_)|(with_reducible refine Fr.setCell (by simp;omega) ?_)|(with_reducible refine Fr.alloc ?_)))) hF1 (by simp)) (by (repeat (first|exact Fr.refl|(with_reducible refine Fr.drew ?_)|(with_reducible refine Fr.setCell (by simp;done) ?_)|(with_reducible refine Fr.setCell (by simp;omega) ?_)|(with_reducible refine Fr.alloc ?_)))) (by simp)
end Go.Proofs.Wx

namespace Go.Proofs.Wx
open Go Go.RowKit
abbrev oHdr0 : List (Nat × Cls):=[(0,.free),(1,.free),(2,.free),(3,.free),(4,.look),(5,.look),(6,.make),(7,.act),(8,.free),(9,.free),(10,.act)]
theorem cid_slice : Tryz.prog.underlying 140 = some (.slice 116):=by kernel_rfl
theorem cid_info : (Tryz.prog.info? 116).map (fun i=>(i.zero,i.size,i.bytes)) = some (some (.agg #[.string ⟨#[]⟩]),1,16):=by kernel_rfl
theorem make_cid (w : World) : (Instr.makeSlice 140 (.int .i64 0) (.int .i64 0)).run Tryz.prog w = .ok (.slice (some ⟨w.heap.size,0,none⟩) 0 0) (w.alloc (.cells #[] 116 (0,0))):=by
  obtain ⟨i,hi,hz,hs,hby⟩:=info_parts cid_info
  have hr:=run_make (P:=Tryz.prog) w _ _ i (.agg #[.string ⟨#[]⟩]) cid_slice hi hz .i64 .i64 0 0 (by omega) (by omega) (by rw [hby];omega) (by omega)
  rw [hs] at hr
  have e : madeCells (Value.agg #[.string ⟨#[]⟩]).cells (0 * 1) = #[]:=by simp [madeCells]
  simp only [Int.toNat_zero,e] at hr
  simpa [e] using hr
theorem own_made {base n : Nat} {w : World} {T : TypeId} {size : Nat} (hb : base ≤ w.heap.size) (hn : n = w.heap.size) : (w.alloc (.cells #[] T (0,0))).ownsRow base T size (.slice (some ⟨n,0,none⟩) 0 0) 0 []:=by
  subst hn
  exact ⟨by simp,.inr ⟨w.heap.size,0,#[],rfl,hb,by show (w.heap.push _)[w.heap.size]? = _;simp,Nat.le_refl _,by unfold maxLen;omega,by simp,by simp⟩⟩
abbrev FZ : Value:=.float .f64 0
theorem rootsB_append (l l2 : List CidM) : rootsB (l ++ l2) = rootsB l ++ rootsB l2:=by simp [rootsB]
theorem rootsB_cons (c : CidM) (l : List CidM) : rootsB (c :: l) = linkB c ++ rootsB l:=by simp [rootsB]
def rtRel (w : World) (d z q r sb sk lf hb T : Nat) (xs rest : List UInt8) (i1 : Nat) (y x : Value) (cs cl : List Value) (ver : Nat) (l : List CidM) (base k : Nat) (wr : World) : Prop :=
  ∃ l1 l2 v vs ty len str bs u tg tag,l = l1 ++ l2 ∧ l2.length = k ∧ xs.drop (i1 + (rootsB l1).length) = rootsB l2 ++ rest ∧
    Dec wr d z q r sb sk lf xs (i1 + (rootsB l1).length) (y :: .int .u8 5 :: cs) 2 4 (x :: .int .i64 k :: cl) 2 ∧ Blk wr T (tk FZ ty len str bs u tg tag) 312 (0,0) ∧
    wr.ownsRow base 116 1 v l1.length vs ∧ Blk wr hb [v,.int .u64 ver] 182 (0,0) ∧ Fr [d,z,q,r,sk,lf,hb] w wr
theorem sl_cons {w : World} {v : Value} {b : Nat} {x : UInt8} {xs : List UInt8} (h : Sl w v b (x :: xs)) (h0 : 1 ≤ xs.length) :
    ∃ o c,v = .slice (some ⟨b,o,none⟩) (xs.length + 1) c ∧ w.cell? ⟨b,o,none⟩ = some (.int .u8 (x.toNat : Nat)) ∧ ¬ c = 1 ∧ xs.length + 1 ≤ c ∧ c ≤ 9223372036854775807 ∧ xs.length < 1000000000000 ∧ Sl w (.slice (some ⟨b,o + 1,none⟩) xs.length (c - 1)) b xs:=by
  obtain ⟨o,c,rfl,h1,h2,hB⟩:=h
  have h3:=hB.cell 0 (by simp)
  have h4:=hB.drop 1
  simp only [List.length_cons] at h1 h2
  exact ⟨o,c,rfl,by simpa using h3,by omega,h1,h2.2,by omega,Sl.mk (by simpa using h4) (by omega) (by omega) rfl⟩
theorem own_slice {base : Nat} {w : World} {T : TypeId} {size : Nat} {v : Value} {n : Nat} {xs : List Value} (h : w.ownsRow base T size v n xs) : ∃ a c,v = .slice a n c:=by
  rcases h.2 with ⟨rfl,rfl⟩|⟨g,cap,cur,rfl,_⟩
  · exact ⟨_,_,rfl⟩
  · exact ⟨_,_,rfl⟩
theorem newOne {W : World} {n : Nat} {t : TypeId} {v : Value} (e : n = W.heap.size) : ∀ j u,[v][j]? = some u → (W.alloc (.cells #[v] t)).cell? ((⟨n,0,none⟩ : Addr).add j) = some u:=by
  intro j u hu
  subst e
  cases j with
  | zero=>simp at hu;subst hu;rw [Addr.add_lit];exact World.cell?_alloc_new _ _ _ 0
  | succ j=>simp at hu
theorem zzDecodeRoots {ea : Addr} {w : World} {d z q r sb sk lf hb : Nat} {xs rest : List UInt8} {i : Nat} {y c0 x l0 : Value} {cs cl : List Value} {hv : Value} {ver : Nat} {l : List CidM}
    (hD : Dec w d z q r sb sk lf xs i (y :: c0 :: cs) 1 6 (x :: l0 :: cl) 1) (hH : Blk w hb [hv,.int .u64 ver] 182 (0,0)) (ho : Off hb d z q r sb sk lf) (hG : Gl ea w)
    (hx : xs.drop i = hdB 4 l.length ++ (rootsB l ++ rest)) (hl : l.length ≤ 50) (hok : ∀ c ∈ l,c.Ok) :
    Calls Tryz.prog 148 #[.pointer (some ⟨d,0,none⟩),.pointer (some ⟨hb,0,none⟩)] w fun e w' =>
      ∃ hv' cs' cl',e = .returned .nilIface ∧ Dec w' d z q r sb sk lf xs (i + (hdB 4 l.length).length + (rootsB l).length) (y :: cs') 1 5 (x :: cl') 1 ∧ Blk w' hb [hv',.int .u64 ver] 182 (0,0) ∧ Fr [d,z,q,r,sk,lf,hb] w w':=by
  have hlt : d < w.heap.size ∧ z < w.heap.size ∧ q < w.heap.size ∧ r < w.heap.size ∧ sb < w.heap.size ∧ sk < w.heap.size ∧ lf < w.heap.size:=by
    obtain ⟨h1,⟨⟨scr,_,hB⟩,⟨⟨a,b,c,hb,_⟩,hr,_⟩,_⟩,h3,h4,_⟩:=hD
    exact ⟨h1.lt,hB.lt,hb.lt,hr.lt.1,hr.lt.2,h3.lt,h4.lt⟩
  have hhl:=hH.lt
  have hgs:=hG.size
  have hgeD:=(⟨hD.hs.hs.hr.ge,hD.hs.ge,hD.ge⟩ : _ ∧ _ ∧ _)
  have ho':=ho
  obtain ⟨o1,o2,o3,o4,o5,o6,o7,o8⟩:=ho'
  have hoT : Off w.heap.size d z q r sb sk lf:=by unfold Off;omega
  have hTh : w.heap.size ≠ hb:=by omega
  have hS1:=fun (w' : World) (hD : Dec w' d z q r sb sk lf xs i (y :: c0 :: cs) 1 6 (x :: l0 :: cl) 1) (ht) (hG : Gl ea w')=>stepArrOpen (fz:=FZ) hD ht hoT hG hx (by omega) (by omega) (by omega)
  have hdr1 : xs.drop (i + (hdB 4 l.length).length) = rootsB l ++ rest:=by rw [← List.drop_drop,hx];simp
  have hfin : ∀ i1,i1 = i + (hdB 4 l.length).length → i + (hdB 4 l.length).length + (rootsB l).length = i1 + (rootsB l).length:=fun i1 hb=>by rw [hb]
  clear hx
  generalize i + (hdB 4 l.length).length = i1 at *
  have hmk:=make_cid
  go_enter Tryz.func148,Tryz.ntmps148
  go_wp2_with (first
    | go_at_call 147;refine (hS1 _ (hD.fr (S:=[]) (by exact frP) (by simp)) (Blk.new (cs:=tk0 FZ)) (hG.fr (S:=[]) (by exact frP) (by simp))).mono ?_;rintro e w1 ⟨rfl,hD1,hT1,hF1⟩;have tc1:=hT1.cells;have hH1:=hF1.blk (b:=hb) hH.alloc (by simp [o1,o2,o3,o4,o6,o7,Ne.symm hTh]);have hc1:=hH1.cells;have hf1:=hH1.free;have hhl1:=hH1.lt;replace hF1 : Fr [d,z,q,r,sk,lf,hb] w w1:=Fr.trans (S:=[d,z,q,r,sk,lf,hb]) (by exact frP) hF1 (by simp);have hsz1:=hF1.size
    | (refine wre 22 oHdr0 ?_)
    | (with_reducible refine wEI ?_;(first|(refine wEN ?_;skip)|(refine wEF rfl (fun K hK=>?_);go_simp)|(refine wEL rfl rfl (fun K hK=>?_);go_simp)|(refine wER rfl (fun K hK=>?_);go_simp)|(refine wEM rfl (fun K hK=>?_);go_simp;try refine ⟨_,_,⟨rfl,rfl⟩,?_⟩)|(refine wEG rfl (fun K hK=>?_);go_simp)|(refine wEA rfl (fun K hK=>?_);go_simp))))
  have hoff : w.heap.size ≠ d ∧ w.heap.size ≠ z ∧ w.heap.size ≠ q ∧ w.heap.size ≠ r ∧ w.heap.size ≠ sb ∧ w.heap.size ≠ sk ∧ w.heap.size ≠ lf:=⟨hoT.1,hoT.2.1,hoT.2.2.1,hoT.2.2.2.1,hoT.2.2.2.2.1,hoT.2.2.2.2.2.1,hoT.2.2.2.2.2.2.1⟩
  generalize hTe : w.heap.size = T at *
  have HTe:=Lib.hid hTe
  clear hTe
  go_loopg [8] (l.length) (fun k s8 wr=>rtRel w d z q r sb sk lf hb T xs rest i1 y x cs cl ver l (T + 1) k wr)
  case atStart =>
    refine ⟨[],l,.slice (some ⟨w1.heap.size,0,none⟩) 0 0,[],91,l.length,.string ⟨#[]⟩,.slice none 0 0,0,false,0,rfl,rfl,by simpa [rootsB] using hdr1,?_,?_,?_,?_,?_⟩
    · exact (hD1.fr (S:=[hb]) (by exact frP) (by simp [o1,o2,o3,o4,o5,o6,o7]))
    · have hTh':=Ne.symm hTh
      exact blkP
    · have hT1l:=hT1.lt
      exact own_made (by simp;omega) (by simp)
    · exact blkP
    · exact frP
  case round =>
    obtain ⟨l1,l2,v,vs,ty,len,str,bs,u,tg,tag,rfl,hk,hdr,hDr,hTr,hOw,hHr,hFr⟩:=hrel
    subst hk
    have hGr:=hG.fr hFr (by simp;omega)
    have hcr:=hHr.cells
    have hfr:=hHr.free
    have hszr:=hFr.size
    have hTr':=hTr.lt
    have hhr':=hHr.lt
    have hTh':=Ne.symm hTh
    clear tc1 hc1 hf1 hF1 hT1 hH1 hD1 hS1 hD hH hdr1
    cases l2 with
    | nil =>
      have hDz:=fun (w' : World) (hf : Fr [T] wr w')=>hDr.fr hf (by simp;exact hoff)
      go_wp2_with (first
        | (with_reducible refine list_store 312 (fun K hK=>?_);refine storeRow _ _ _ rfl T (tk0 FZ) rfl rfl _ _ hTr (by kernel_rfl) rfl rfl (fun w1z hTz hFz=>?_);have hHz:=hFz.blk hHr (by simp [hTh']))
        | (go_at_call 147;refine (stepArrClose (fz:=FZ) (hDz _ hFz) hTz hoT).mono ?_;rintro e w2 ⟨rfl,hD2,hT2,hF2⟩;have tc2:=hT2.cells;have hH2:=hF2.blk hHz (by simp [o1,o2,o3,o4,o6,o7,hTh'])))
      go_ret
      refine ⟨v,_,_,rfl,by rw [hfin i1 rfl,List.append_nil];exact hD2,hH2,?_⟩
      exact Fr.trans (S:=[d,z,q,r,sk,lf,hb]) (hFr.trans hFz (by simp [HTe.out])) hF2 (by simp [HTe.out])
    | cons c l2 =>
      have hcok : c.Ok:=hok c (by simp)
      have hcl:=hcok.le
      simp only [List.length_cons] at hDr
      have hDz:=fun (w' : World) (hf : Fr [T] wr w')=>hDr.fr hf (by simp;exact hoff)
      have hdl : xs.drop (i1 + (rootsB l1).length) = hdB 6 42 ++ (hdB 2 (0 :: c.bytes).length ++ ((0 :: c.bytes) ++ (rootsB l2 ++ rest))):=by
        rw [hdr,rootsB_cons];simp [linkB]
      have hln : l2.length < 50 ∧ l1.length < 50:=by simp at hl;omega
      have hstep:=fun (w' : World) (hf : Fr [T] wr w') (ht)=>stepBytes (fz:=FZ) (s:=0 :: c.bytes) (hDz w' hf) ht hoT (hGr.fr hf (by simp;omega)) (by omega) hdl (by simp;omega) (by simp)
      have hdr2 : xs.drop (i1 + (rootsB (l1 ++ [c])).length) = rootsB l2 ++ rest:=by
        rw [rootsB_append,List.length_append,← Nat.add_assoc,← List.drop_drop,hdr,rootsB_cons];simp [rootsB]
      have hpos : i1 + (rootsB l1).length + (hdB 6 42).length + (hdB 2 (0 :: c.bytes).length).length + (0 :: c.bytes).length = i1 + (rootsB (l1 ++ [c])).length:=by
        rw [rootsB_append];simp [rootsB,linkB];omega
      rw [hpos] at hstep
      have Hdr2:=Lib.hid hdr2
      clear hdr hdl hpos hdr2
      generalize hpe : i1 + (rootsB (l1 ++ [c])).length = pos at *
      have Hpe:=Lib.hid hpe
      clear hpe
      go_wp2_with (first
        | (with_reducible refine list_store 312 (fun K hK=>?_);refine storeRow _ _ _ rfl T (tk0 FZ) rfl rfl _ _ hTr (by kernel_rfl) rfl rfl (fun w1z hTz hFz=>?_);have hHz:=hFz.blk hHr (by simp [hTh']))
        | (go_at_call 147;refine (hstep _ hFz hTz).mono ?_;rintro e w2 ⟨rfl,v',b,hD2,hb2,hS2,hT2,hF2⟩;obtain ⟨ov,cv,rfl,hz0,hcv1,hcv2,hcv3,hcv4,hSc⟩:=sl_cons hS2 (by omega);have hcc:=cidCast hSc hcok;have tc2:=hT2.cells;have hH2:=hF2.blk hHz (by simp [o1,o2,o3,o4,o6,o7,hTh']);replace hz0 : w2.cell? ⟨b,ov,none⟩ = some (.int .u8 0):=hz0)
        | (go_at_call 182;refine hcc.mono ?_;rintro e w3 ⟨rfl,hF3⟩;have hH3:=hF3.blk hH2 (by simp);have hT3:=hF3.blk hT2 (by simp);have hD3:=hD2.fr hF3 (by simp);have hc3:=hH3.cells;have hf3:=hH3.free;have hFz3 : Fr [d,z,q,r,sk,lf,T] wr w3:=(Fr.trans (S:=[d,z,q,r,sk,lf,T]) (hFz.mono (by simp)) hF2 (by simp)).trans hF3 (by simp);have hOw3:=own_fr hOw hFz3 (by simp;omega);have hh3:=hH3.lt;have hTl3:=hT3.lt))
      go_wp2_with (first
        | ((with_reducible refine list_bi .append (fun K hK=>?_));  refine appOwn _ _ 140 rfl (T + 1) 116 (.agg #[.string ⟨#[]⟩]) 1 16 cid_slice cid_info rfl (by omega) v l1.length vs rfl (own_fr (S:=[]) hOw3 (by exact frP) (by simp)) _ 1 _ [.string ⟨c.bytes.toArray⟩] rfl rfl (newOne (by simp)) (by intro u hu;simp at hu;subst hu;simp [Value.oneCell']) (by omega) (by omega) (by simp;omega) (fun v2 w4 hOw4 hF4=>?_);have hnb:=own_ge hOw3;have hOw5:=hOw4;obtain ⟨a2,c2,rfl⟩:=own_slice hOw4;have hhn : hb ∉ v.ownBlock.toList:=(fun hm=>by have:=hnb _ hm;omega);have hTn : T ∉ v.ownBlock.toList:=(fun hm=>by have:=hnb _ hm;omega);have hH4:=hF4.blk (b:=hb) (by exact blkP) hhn;have hT4:=hF4.blk (b:=T) (by exact blkP) hTn;have hc4:=hH4.cells;have hf4:=hH4.free;clear hc3 hf3)
        | (refine wre 22 oHdr0 ?_)
        | (with_reducible refine wEI ?_;(first|(refine wEN ?_;skip)|(refine wEF rfl (fun K hK=>?_);go_simp)|(refine wEL rfl rfl (fun K hK=>?_);go_simp)|(refine wER rfl (fun K hK=>?_);go_simp)|(refine wEM rfl (fun K hK=>?_);go_simp;try refine ⟨_,_,⟨rfl,rfl⟩,?_⟩)|(refine wEG rfl (fun K hK=>?_);go_simp)|(refine wpE_actp rfl rfl (fun K hK=>?_);simp only [List.getElem_toArray,List.getElem_cons_succ,List.getElem_cons_zero];(first|((with_reducible refine op_bi .append ?_);  refine appOwn _ _ 140 rfl (T + 1) 116 (.agg #[.string ⟨#[]⟩]) 1 16 cid_slice cid_info rfl (by omega) v l1.length vs rfl (own_fr (S:=[]) hOw3 (by exact frP) (by simp)) _ 1 _ [.string ⟨c.bytes.toArray⟩] rfl rfl (newOne (by simp)) (by intro u hu;simp at hu;subst hu;simp [Value.oneCell']) (by omega) (by omega) (by simp;omega) (fun v2 w4 hOw4 hF4=>?_);have hnb:=own_ge hOw3;have hOw5:=hOw4;obtain ⟨a2,c2,rfl⟩:=own_slice hOw4;have hhn : hb ∉ v.ownBlock.toList:=(fun hm=>by have:=hnb _ hm;omega);have hTn : T ∉ v.ownBlock.toList:=(fun hm=>by have:=hnb _ hm;omega);have hH4:=hF4.blk (b:=hb) (by exact blkP) hhn;have hT4:=hF4.blk (b:=T) (by exact blkP) hTn;have hc4:=hH4.cells;have hf4:=hH4.free;clear hc3 hf3)))|(refine wEA rfl (fun K hK=>?_);go_simp))))
      go_roundg l2.length
      case rel =>
        have hF34 : Fr ([d,z,q,r,sk,lf,T] ++ v.ownBlock.toList) wr w4:=(hFz3.mono fun k hk=>List.mem_append_left _ hk).trans (Fr.trans (S:=v.ownBlock.toList) (by exact frP) hF4 (fun k hk _=>hk)) (fun k hk _=>List.mem_append_right _ hk)
        have hF5 : Fr [d,z,q,r,sk,lf,hb] w w4:=hFr.trans hF34 (by
          intro k hk hkl
          have:=HTe.out
          rcases List.mem_append.1 hk with h|h
          · simp only [List.mem_cons,List.not_mem_nil,or_false] at h ⊢
            rcases h with h|h|h|h|h|h|h
            all_goals first|(simp [h];done)|omega
          · have:=own_ge hOw3 k h;omega)
        have hDn : ∀ k,k ∈ v.ownBlock.toList → k ≠ d ∧ k ≠ z ∧ k ≠ q ∧ k ≠ r ∧ k ≠ sb ∧ k ≠ sk ∧ k ≠ lf:=fun k hk=>by have:=hnb k hk;omega
        have hD4:=hD3.fr (Fr.trans (S:=v.ownBlock.toList) (by exact frP) hF4 (fun k hk _=>hk)) hDn
        refine ⟨l1 ++ [c],l2,_,_,120,0,.string ⟨#[]⟩,.slice (some ⟨b,ov,none⟩) (c.bytes.length + 1) cv,0,true,42,by simp,rfl,by rw [Hpe.out];exact Hdr2.out,by rw [Hpe.out];exact hD4.fr (S:=[hb]) (by exact frP) (by simp [o1,o2,o3,o4,o5,o6,o7]),?_,by rw [List.length_append];exact own_fr (S:=[hb]) hOw5 (by exact frP) (by simp;omega),?_,?_⟩
        · exact blkP
        · exact blkP
        · exact Fr.setCell (by simp) hF5
      case measure=>simp
end Go.Proofs.Wx

namespace Go.Proofs.Wx
open Go Go.RowKit
theorem or_head : ∀ (M : Fin 8) (n : Fin 32),(M.val * 32 ||| n.val) = M.val * 32 + n.val:=by decide
theorem or_head8 {M n : Nat} (hM : M < 8) (hn : n < 32) : bits .or .u8 ((M : Int) * 32) (n : Int) = (M : Int) * 32 + n:=by
  have h:=(bits_nat .u8 8 (by decide) wraps_u8 (M * 32) n (by omega) (by omega)).2
  have h2:=or_head ⟨M,hM⟩ ⟨n,hn⟩
  simp only at h2
  rw [h2] at h
  push_cast at h
  exact h
theorem spHead {w : World} {M n : Nat} (hM : M < 8) (hn : n < 256) : Calls Tryz.prog 43 #[.int .u8 M,.int .u64 n] w fun e w'=>e = .returned (.string ⟨(hdB M n).toArray⟩) ∧ Fr [] w w':=by
  by_cases h : n < 24
  · have hz : (n : Int) < 24:=by omega
    have hb : hdB M n = [UInt8.ofNat (M * 32 + n)]:=by unfold hdB;rw [if_pos h]
    rw [hb]
    have hW : IntKind.u8.wrap (n : Int) = (n : Int):=by simp [IntKind.wrap,IntKind.bits,IntKind.signed];omega
    have hO:=or_head8 hM (n:=n) (by omega)
    clear hb h
    go_enter Tryz.func43,Tryz.ntmps43
    go_wp2_with (first
      | ((with_reducible refine list_convert (fun K hK=>?_));  refine strOf _ rfl (xs:=[UInt8.ofNat (M * 32 + n)]) (b:=w.heap.size) (off:=0) (Blk.bs (pre:=[]) (post:=[]) (Blk.newAt rfl) (by simp [by8];omega) rfl) rfl rfl ?_))
    go_ret
    exact ⟨by simp,by exact frP⟩
  · have hz : ¬ (n : Int) < 24:=by omega
    have hz2 : (n : Int) < 256:=by omega
    have hb : hdB M n = [UInt8.ofNat (M * 32 + 24),UInt8.ofNat n]:=by unfold hdB;rw [if_neg h]
    rw [hb]
    have hW : IntKind.u8.wrap (n : Int) = (n : Int):=by simp [IntKind.wrap,IntKind.bits,IntKind.signed];omega
    have hO : bits .or .u8 ((M : Int) * 32) 24 = (M : Int) * 32 + 24:=or_head8 hM (n:=24) (by omega)
    clear hb h
    go_enter Tryz.func43,Tryz.ntmps43
    go_wp2_with (first
      | ((with_reducible refine list_convert (fun K hK=>?_));  refine strOf _ rfl (xs:=[UInt8.ofNat (M * 32 + 24),UInt8.ofNat n]) (b:=w.heap.size) (off:=0) (Blk.bs (pre:=[]) (post:=[]) (Blk.newAt rfl) (by simp [by8];omega) rfl) rfl rfl ?_))
    go_ret
    exact ⟨by simp,by exact frP⟩
theorem spLink {w : World} {c : CidM} (hok : c.Ok) : Calls Tryz.prog 44 #[cidA c] w fun e w'=>e = .returned (.string ⟨(linkB c).toArray⟩) ∧ Fr [] w w':=by
  have hle:=hok.le
  have hok1 : c.Ok1:=by
    have:=hok.len
    rcases hok.kind with ⟨h0,h1,h2,h3⟩|⟨h0,h1,h2⟩ <;> exact ⟨by omega,by omega,by omega,by omega⟩
  have h1:=fun w=>spCidBytes (w:=w) hok1
  have h2:=fun w=>spHead (w:=w) (M:=6) (n:=42) (by omega) (by omega)
  have h3:=fun w=>spHead (w:=w) (M:=2) (n:=c.bytes.length + 1) (by omega) (by omega)
  have hb : linkB c = hdB 6 42 ++ (hdB 2 (c.bytes.length + 1) ++ ([0] ++ c.bytes)):=by simp [linkB]
  rw [hb]
  have l1:=hdB_length 6 42
  have l2:=hdB_length 2 (c.bytes.length + 1)
  have wL : IntKind.u64.wrap (c.bytes.length : Int) = (c.bytes.length : Int):=by simp [IntKind.wrap,IntKind.bits,IntKind.signed];omega
  obtain ⟨A,hA⟩ : ∃ A,Hid (A = hdB 6 42):=⟨_,rfl⟩
  obtain ⟨B,hB⟩ : ∃ B,Hid (B = hdB 2 (c.bytes.length + 1)):=⟨_,rfl⟩
  rw [← hA.out] at h2 l1 ⊢
  rw [← hB.out] at h3 l2 ⊢
  unfold cidA at *
  clear hb hok hok1
  go_enter Tryz.func44,Tryz.ntmps44
  go_wp2_with (first
    | go_at_call 46;refine (h1 _).mono ?_;rintro e w1 ⟨rfl,hF1⟩;clear h1
    | go_at_call 43;refine (h2 _).mono ?_;rintro e w2 ⟨rfl,hF2⟩;clear h2
    | go_at_call 43;refine (h3 _).mono ?_;rintro e w3 ⟨rfl,hF3⟩;clear h3)
  go_ret
  exact ⟨rfl,((Fr.trans (S:=[]) (by exact frP) hF1 (by simp)).trans hF2 (by simp)).trans hF3 (by simp)⟩
/-- Identifiers in a row of a slice. -/
def CidsAt (w : World) (ad : Option Addr) (l : List CidM) : Prop:=∀ i c,l[i]? = some c → ∃ b o,ad = some ⟨b,o,none⟩ ∧ w.cell? ⟨b,o + i * 4,none⟩ = some (.int .u64 c.v) ∧ w.cell? ⟨b,o + i * 4 + 1,none⟩ = some (.int .u64 c.codec) ∧ w.cell? ⟨b,o + i * 4 + 2,none⟩ = some (.int .u64 c.code) ∧
  w.cell? ⟨b,o + i * 4 + 3,none⟩ = some (.string ⟨c.dig.toArray⟩)
theorem CidsAt.ext {w w' : World} {ad : Option Addr} {l : List CidM} (h : CidsAt w ad l) (he : w.Ext w') : CidsAt w' ad l:=fun i c hc=>by
  obtain ⟨b,o,ha,h1,h2,h3,h4⟩:=h i c hc
  exact ⟨b,o,ha,he.cell h1,he.cell h2,he.cell h3,he.cell h4⟩
theorem wrap64_1 {n : Nat} (h : n < 1000000000) : RowKit.wrap64 ((n : Int) + 1) = ((n + 1 : Nat) : Int):=by
  unfold RowKit.wrap64
  rw [Int.emod_eq_of_lt (by omega) (by omega)];omega
def hdRel (w : World) (pre : List UInt8) (l : List CidM) (k : Nat) (s5 s19 : Value) (wr : World) : Prop :=
  ∃ l1 l2 X,l = l1 ++ l2 ∧ l2.length = k ∧ s19 = .int .i64 l1.length ∧ s5 = .string ⟨X⟩ ∧ X.toList = pre ++ rootsB l1 ∧ Fr [] w wr
set_option maxRecDepth 1000000 in
set_option maxHeartbeats 12800000 in
theorem spHeader {w : World} {ad : Option Addr} {cap : Nat} {l : List CidM} (h : CidsAt w ad l) (hl : l.length ≤ 50) (hok : ∀ c ∈ l,c.Ok) :
    Calls Tryz.prog 21 #[.slice ad l.length cap,.int .u64 1] w fun e w'=>e = .returned (.string ⟨(headerB l).toArray⟩) ∧ Fr [] w w':=by
  have hd:=fun (M n : Nat) (hM : M < 8) (hn : n < 256) w=>spHead (w:=w) hM hn
  have h52:=hd 5 2 (by omega) (by omega)
  have h35:=hd 3 5 (by omega) (by omega)
  have h4l:=hd 4 l.length (by omega) (by omega)
  have h37:=hd 3 7 (by omega) (by omega)
  have h01:=hd 0 1 (by omega) (by omega)
  have wL : IntKind.u64.wrap (l.length : Int) = (l.length : Int):=by simp [IntKind.wrap,IntKind.bits,IntKind.signed];omega
  have g1:=hdB_length 5 2
  have g2:=hdB_length 3 5
  have g3:=hdB_length 4 l.length
  have g4:=hdB_length 3 7
  have g5:=hdB_length 0 1
  have hH:=hbB_length hl hok
  obtain ⟨A,hA⟩ : ∃ A,Hid (A = hdB 5 2):=⟨_,rfl⟩
  obtain ⟨B,hB⟩ : ∃ B,Hid (B = hdB 3 5):=⟨_,rfl⟩
  obtain ⟨C,hC⟩ : ∃ C,Hid (C = hdB 4 l.length):=⟨_,rfl⟩
  obtain ⟨D,hD⟩ : ∃ D,Hid (D = hdB 3 7):=⟨_,rfl⟩
  obtain ⟨E,hE⟩ : ∃ E,Hid (E = hdB 0 1):=⟨_,rfl⟩
  rw [← hA.out] at h52 g1
  rw [← hB.out] at h35 g2
  rw [← hC.out] at h4l g3
  rw [← hD.out] at h37 g4
  rw [← hE.out] at h01 g5
  have hvi:=fun w=>spVarint (w:=w) (n:=(hbB l).length) (by omega)
  have HL:=Lib.hid (And.intro hl (And.intro hok hH))
  clear hd hH hok
  go_enter Tryz.func21,Tryz.ntmps21
  go_wp2_with (first
    | go_at_call 43;refine (h52 _).mono ?_;rintro e w1 ⟨rfl,hF1⟩;clear h52
    | go_at_call 43;refine (h35 _).mono ?_;rintro e w2 ⟨rfl,hF2⟩;clear h35
    | go_at_call 43;refine (h4l _).mono ?_;rintro e w3 ⟨rfl,hF3⟩;clear h4l)
  have hF03 : Fr [] w w3:=(hF1.trans hF2 (by simp)).trans hF3 (by simp)
  go_loopg [5,19] l.length (fun k s5 s19 wr=>hdRel w (A ++ (B ++ (sRoots ++ C))) l k s5 s19 wr)
  case atStart=>exact ⟨[],l,_,rfl,rfl,rfl,rfl,by simp [sRoots,rootsB],hF03⟩
  case round =>
    obtain ⟨l1,l2,X,hll,hk,rfl,rfl,hX,hFr⟩:=hrel
    obtain ⟨Y,rfl⟩ : ∃ Y : List UInt8,X = Y.toArray:=⟨X.toList,by simp⟩
    have hY : Y = (A ++ (B ++ (sRoots ++ C))) ++ rootsB l1:=by simpa using hX
    clear hX hF1 hF2 hF3 hF03
    cases l2 with
    | nil =>
      have hz : ¬ (l1.length : Int) < (l.length : Int):=by rw [hll];simp
      have e1 : l = l1:=by simpa using hll
      have hHB : hbB l = Y ++ (D ++ (sVersion ++ E)):=by rw [hY,e1,hA.out,hB.out,hC.out,hD.out,hE.out,e1];simp [hbB]
      have hYl : Y.length ≤ 12000:=by have:=HL.out.2.2;rw [hHB] at this;simp at this;omega
      have hnn : (Y.length : Int) + ((D.length : Int) + ((E.length : Int) + 1 + 1 + 1 + 1 + 1 + 1 + 1)) = ((hbB l).length : Nat):=by rw [hHB];simp [sVersion]
      have hvl:=Lib.uvarint_length64 (x:=(hbB l).length) (by omega)
      have HQ:=Lib.hid (And.intro hHB (And.intro hll hk))
      have HNN:=Lib.hid hnn
      clear e1 hHB hll hk hY hnn
      go_wp2_with (first
        | go_at_call 43;refine (h37 _).mono ?_;rintro e w4 ⟨rfl,hF4⟩;clear h37
        | go_at_call 43;refine (h01 _).mono ?_;rintro e w5 ⟨rfl,hF5⟩;clear h01
        | go_at_call 45;rw [HNN.out];refine (hvi _).mono ?_;rintro e w6 ⟨g6,c6,rfl,hg6,hB6,hF6⟩;clear hvi
        | (with_reducible refine list_convert (fun K hK=>?_);  refine strOf _ rfl hB6 rfl rfl ?_))
      go_ret
      refine ⟨?_,((hFr.trans hF4 (by simp)).trans hF5 (by simp)).trans hF6 (by simp)⟩
      unfold headerB
      rw [HQ.out.1]
      simp [sVersion]
    | cons c l2 =>
      have hz : (l1.length : Int) < (l.length : Int):=by rw [hll];simp;omega
      have hgc : l[l1.length]? = some c:=by rw [hll];simp
      obtain ⟨b,o,rfl,x1,x2,x3,x4⟩:=(h.ext (Fr.ext hFr)) _ _ hgc
      have hcok:=HL.out.2.1 c (List.mem_of_getElem? hgc)
      have hlk:=fun w=>spLink (w:=w) hcok
      have hll2:=linkB_length hcok
      have hl50 : l1.length + l2.length + 1 ≤ 50:=by have:=HL.out.1;rw [hll] at this;simp at this;omega
      have hYl : Y.length ≤ 12000:=by
        have:=rootsB_length (l:=l1) (fun x hx=>HL.out.2.1 x (by rw [hll];simp [hx]))
        rw [hY];simp [sRoots];omega
      unfold cidA at hlk
      have HQ:=Lib.hid (And.intro hll (And.intro hk hY))
      clear hll hk hY hgc
      go_wp2_with (first
        | go_at_call 44;refine (hlk _).mono ?_;rintro e w4 ⟨rfl,hF4⟩;clear hlk)
      go_roundg l2.length
      case measure=>have:=HQ.out.2.1;simp at this;omega
      case rel =>
        obtain ⟨hll,hk,hY⟩:=HQ.out
        refine ⟨l1 ++ [c],l2,_,by rw [hll];simp,rfl,by first|(rw [wrap64_1 (by omega)];simp;done)|(simp;done),rfl,?_,hFr.trans (Fr.trans (S:=[]) (by exact frP) hF4 (by simp)) (by simp)⟩
        simp [hY,rootsB]
end Go.Proofs.Wx
