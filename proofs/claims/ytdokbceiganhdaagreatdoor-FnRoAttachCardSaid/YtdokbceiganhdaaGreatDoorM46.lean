import Derived.Test.YtdokbceiganhdaaGreatDoorM45
set_option maxRecDepth 100000
set_option maxHeartbeats 1000000
set_option linter.unusedVariables false
set_option linter.unusedSimpArgs false
set_option linter.deprecated false
set_option linter.all false
set_option linter.unusedSectionVars false
namespace Go.Proofs.YtdokbceiganhdaaGreatDoor.fnRoAttach
open Go Go.ChangeShapes Go.WideShapes Go.ChangeAt Go.RowKit
theorem own : ownKnob Tryz.prog.godebug = none:=by kernel_rfl
set_option maxRecDepth 100000 in
/-- What the walk gives, for every argument and every world that holds the listed variables. -/
theorem contract (H : Type) (enc : TypeId × Value → H) (W : World) (base : Nat) (args : Array Value) (ds gs : List (DataW H)) (before : List MemPlace)
    (hval : ∀ (j : Nat) t v,Tryz.f3.params[j]? = some t → args[j]? = some v → Value.okWide Tryz.prog W .any base t v)
    (hW : DataW.Whole enc Tryz.prog Tryz.f3.params.toList Rows.fnRoAttachSpec.vars false W args.toList ds gs before) (hL : laidMetH Tryz.prog Rows.fnRoAttachRow.laid W) (hS : W.ShapedOpen Tryz.prog) :
    Calls Tryz.prog 3 args W fun e W'=>∃ v,e = .returned v ∧ Rows.fnRoAttachSpec.post enc Tryz.prog Tryz.f3 false true false false W args v W':=by
  have hW':=hW
  obtain ⟨p,q,hA0,hV,rfl,hfz,hnd⟩:=hW
  have hA : DataW.TrodAll enc Tryz.prog W 0 (fun _=>true) true Tryz.f3.params.toList args.toList ds p:=hA0
  rw [Tryz.params3] at hA hval
  obtain ⟨v0,v1,v2,v3,d0,d1,d2,d3,p0,p1,p2,p3,rfl,rfl,rfl,h0,h1,h2,h3⟩:=trodAll_four hA
  obtain ⟨rfl,rfl⟩:=trodVars_none hV
  obtain ⟨ra,ba,rc,bc,c,e0,hC⟩:=Wx.carOf (hval 0 25 v0 rfl rfl) h0
  obtain ⟨k,rfl,rfl,rfl,wk⟩:=open_int Tryz.underlying26 (hval 1 26 v1 rfl rfl) h1
  obtain ⟨d,rfl,rfl,rfl,wd⟩:=open_int Tryz.underlying5 (hval 2 5 v2 rfl rfl) h2
  obtain ⟨i,rfl,rfl,rfl,wi⟩:=open_int Tryz.underlying5 (hval 3 5 v3 rfl rfl) h3
  obtain ⟨⟨ea,he⟩,aa,ha⟩:=Wx.laidTwo hL
  have hlt:=hW'.lt
  clear hA0
  simp only [List.append_nil] at hW' hlt
  have hk:=Wx.u64_back wk
  have hd:=Wx.u8_back wd
  have hi:=Wx.u8_back wi
  have walk:=Wx.raLaw (rc:=rc) (bc:=bc) (k:=k.toNat) (d:=d.toNat) (i:=i.toNat) hC ⟨Wx.sizeG hS,he⟩ ha hd.2 hi.2
  rw [← e0,hk,hd.1,hi.1] at walk
  refine walk.mono fun e W' ⟨h1,hF⟩=>?_
  subst h1
  refine ⟨_,rfl,_,_,_,[],p0,[],hW',trodAll_cons_mk (shut_bool Tryz.underlying4 _) trodAll_mk0,?_,?_,hF.below.frame _,fun h=>by cases h⟩
  · rw [Tryz.params3]
    have:=trodAll_mk4 (Below.trod (by kernel_rfl) (by kernel_rfl) (of_decide_eq_true (by kernel_rfl)) h0 hF.below (fun x hx=>hlt x hx)) (shut_int (enc:=enc) (w:=W') (base:=0) (spare:=fun b=>decide (b < W.heap.size)) (held:=true) Tryz.underlying26 wk) (shut_int Tryz.underlying5 wd) (shut_int Tryz.underlying5 wi)
    show DataW.TrodAll enc Tryz.prog W' 0 (fun b=>decide (b < W.heap.size)) true [25,26,5,5] [v0,.int .u64 k,.int .u8 d,.int .u8 i] [d0,.lit (.int .u64 k),.lit (.int .u8 d),.lit (.int .u8 i)] p0
    simpa using this
  · rfl
theorem laid_met (os : Os) (args : Array Value) : laidMetH Tryz.prog Rows.fnRoAttachRow.laid ((World.doorLaid Tryz.prog 451 os).forCall (fun _ _=>0) ⟨#[],args,[]⟩).memory :=
  laidMetH_of_parts3 (fuel:=8) (laidMet_of_run' 8 (by kernel_rfl) (by kernel_rfl)) (by kernel_rfl) (by kernel_rfl)
theorem reads (os : Os) {H : Type} (enc : TypeId × Value → H) : ∃ places,DataW.whole enc Tryz.prog ((World.doorLaid Tryz.prog 451 os).forCall (fun _ _=>0) ⟨#[],#[.agg #[.slice none 0 0,.slice none 0 0],.int .u64 0,.int .u8 0,.int .u8 0],[]⟩).memory Tryz.f3.params.toList Rows.fnRoAttachSpec.vars false #[Value.agg #[.slice none 0 0,.slice none 0 0],.int .u64 0,.int .u8 0,.int .u8 0].toList 8 = some ([.agg [.nil,.nil],.lit (.int .u64 0),.lit (.int .u8 0),.lit (.int .u8 0)],[],places) :=
  ⟨[],by kernel_rfl⟩
set_option maxRecDepth 100000 in
theorem lifted (os : Os) (started : os.Started) (H : Type) (enc : TypeId × Value → H) (F : Stop.Interp) :
    ReturnsInHanded {} Tryz.checked os 3 .any ((OpenSpec.ofChange Rows.fnRoAttachSpec).preRow enc Tryz.prog Tryz.f3 Rows.fnRoAttachRow.domain false Rows.fnRoAttachRow.laid) (((OpenSpec.ofChange Rows.fnRoAttachSpec).at F).post enc Tryz.prog Tryz.f3 false true false false):=by
  obtain ⟨places,hx⟩:=reads os enc
  refine returnsInHanded_of_row (C:=Tryz.checked) (s:=OpenSpec.ofChange Rows.fnRoAttachSpec) own started (by kernel_rfl) Tryz.func3
    (witness_row_atRef (enc:=enc) (C:=Tryz.checked) false (World.doorLaid Tryz.prog 451 os) #[.agg #[.slice none 0 0,.slice none 0 0],.int .u64 0,.int .u8 0,.int .u8 0] rfl (by kernel_rfl) (by kernel_rfl) (by kernel_rfl)
      (OpenSpec.preRow_of_cond 8 hx (by kernel_rfl) (fun k hk=>by cases hk) (by kernel_rfl) (laid_met os _))) ?_
  intro W base args ds gs before hval hW _ _ _ hL hS _
  exact contract H enc W base args ds gs before hval hW hL hS
end Go.Proofs.YtdokbceiganhdaaGreatDoor.fnRoAttach
