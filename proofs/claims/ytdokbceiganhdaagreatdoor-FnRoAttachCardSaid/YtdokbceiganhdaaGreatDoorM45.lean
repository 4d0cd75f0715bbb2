import Derived.Test.YtdokbceiganhdaaGreatDoorM44
import Derived.Test.YtdokbceiganhdaaGreatDoorCards
import Derived.Test.YtdokbceiganhdaaGreatDoorTie
import Derived.WalkKit
import Derived.ProofKit
import Derived.OpenShut
import Derived.Deep.DeepHandedRow
import Derived.Deep.DeepWitnessRowRef
import Derived.Deep.Slices
import Derived.Lib.SmallJoins
import Derived.Stop.LaidErr
import Derived.LaidSub
import Derived.LaidMore
set_option maxRecDepth 100000
set_option maxHeartbeats 1000000
set_option linter.unusedVariables false
set_option linter.unusedSimpArgs false
set_option linter.deprecated false
set_option linter.all false
set_option linter.unusedSectionVars false
namespace Go.Proofs.Wx
open Go Go.RowKit Go.Deep Go.Joins Go.ChangeShapes Go.WideShapes Go.ChangeAt
section
variable {H : Type} {enc : TypeId × Value → H} {w : World} {base : Nat} {spare : Nat → Bool} {held : Bool}
theorem str_back (s : ByteArray) : (⟨s.data.toList.toArray⟩ : ByteArray) = s:=by simp
theorem u64_back {k : Int} (h : (Lit.int .u64 k).wf = true) : ((k.toNat : Nat) : Int) = k:=by have:=bounds_u64 h;omega
theorem u8_back {k : Int} (h : (Lit.int .u8 k).wf = true) : ((k.toNat : Nat) : Int) = k ∧ k.toNat ≤ 255:=by
  have:=bounds_u8 h;omega
theorem c45 : Tryz.prog.cellsOf 49 = 4:=by kernel_rfl
theorem c30 : Tryz.prog.cellsOf 26 = 1:=by kernel_rfl
theorem c9 : Tryz.prog.cellsOf 9 = 1:=by kernel_rfl
theorem cidOf {fuel : Nat} {cs : List Value} {x : DataW H × List MemPlace} (h : DataW.trod enc Tryz.prog w base spare held fuel 49 cs = some x) : ∃ c : CidM,cs = [.int .u64 c.v,.int .u64 c.codec,.int .u64 c.code,.string ⟨c.dig.toArray⟩]:=by
  obtain ⟨y0,y1,y2,y3,n,rfl,hl,h0,h1,h2,h3⟩:=trod_struct4 Tryz.underlying49 h
  rw [c45] at hl
  match cs,hl with
  | [a,b,c,d],_ =>
    obtain ⟨k0,e0,_,w0⟩:=DataW.trod_int Tryz.underlying26 h0
    obtain ⟨k1,e1,_,w1⟩:=DataW.trod_int Tryz.underlying26 h1
    obtain ⟨k2,e2,_,w2⟩:=DataW.trod_int Tryz.underlying26 h2
    obtain ⟨s,e3,_,_⟩:=DataW.trod_string Tryz.underlying9 h3
    simp [c30,c9] at e0 e1 e2 e3
    subst e0 e1 e2 e3
    exact ⟨⟨k0.toNat,k1.toNat,k2.toNat,s.data.toList⟩,by rw [u64_back w0,u64_back w1,u64_back w2,str_back]⟩
theorem c_blk : Tryz.prog.cellsOf 52 = 5:=by kernel_rfl
instance : Inhabited CidM:=⟨⟨0,0,0,[]⟩⟩
instance : Inhabited BlkM:=⟨⟨default,[]⟩⟩
theorem blkOf {fuel : Nat} {cs : List Value} {x : DataW H × List MemPlace} (h : DataW.trod enc Tryz.prog w base spare held fuel 52 cs = some x) : ∃ b : BlkM,cs = [.int .u64 b.cid.v,.int .u64 b.cid.codec,.int .u64 b.cid.code,.string ⟨b.cid.dig.toArray⟩,.string ⟨b.data.toArray⟩]:=by
  obtain ⟨y0,y1,n,rfl,hl,h0,h1⟩:=trod_struct2 Tryz.underlying52 h
  rw [c_blk] at hl
  match cs,hl with
  | [a,b,c,d,e],_ =>
    obtain ⟨cd,e0⟩:=cidOf (by simpa [c45] using h0)
    obtain ⟨s,e1,_,_⟩:=DataW.trod_string Tryz.underlying9 h1
    simp [c9] at e1
    simp at e0
    obtain ⟨rfl,rfl,rfl,rfl⟩:=e0
    subst e1
    exact ⟨⟨cd,s.data.toList⟩,by rw [str_back]⟩
theorem cidsOf {fuel : Nat} {v : Value} {x : DataW H × List MemPlace} (h : DataW.trod enc Tryz.prog w base spare held fuel 22 [v] = some x) : ∃ ad cap l,v = .slice ad l.length cap ∧ CidsAt w ad l:=by
  rcases open_slice Tryz.underlying22 h with ⟨e,_⟩|⟨a,len,cap,m,n,D,Pl,e,_,hlc,_,hm,_,hx⟩
  · simp at e;subst e
    exact ⟨none,0,[],rfl,fun i c hc=>by simp at hc⟩
  · simp at e;subst e
    have hlm : len ≤ m:=by rw [hm];split <;> omega
    obtain ⟨C,hC⟩:=choose_lt (α:=CidM) (n:=len) (p:=fun i c=>∃ off,a = ⟨a.block,off,none⟩ ∧ w.cell? ⟨a.block,off + i * 4,none⟩ = some (.int .u64 c.v) ∧ w.cell? ⟨a.block,off + i * 4 + 1,none⟩ = some (.int .u64 c.codec) ∧ w.cell? ⟨a.block,off + i * 4 + 2,none⟩ = some (.int .u64 c.code) ∧ w.cell? ⟨a.block,off + i * 4 + 3,none⟩ = some (.string ⟨c.dig.toArray⟩)) (fun i hi=>by
      obtain ⟨cs',h1,h2⟩:=hx i (by omega)
      obtain ⟨c,rfl⟩:=cidOf h2
      obtain ⟨_,_,hc⟩:=World.cells?_some h1
      rw [c45] at hc
      obtain ⟨cs0,g1,g2⟩:=hx 0 (by omega)
      obtain ⟨c0,rfl⟩:=cidOf g2
      obtain ⟨_,_,gc⟩:=World.cells?_some g1
      rw [c45] at gc
      obtain ⟨b,off,spot⟩:=a
      have h0:=gc 0 (by omega)
      have hspot : spot = none:=by simpa [Addr.add] using World.cell?_spot (h0.trans rfl)
      subst hspot
      refine ⟨c,off,rfl,?_,?_,?_,?_⟩
      · have:=hc 0 (by omega);rw [Addr.add_lit,Addr.add_lit] at this;exact this
      · have:=hc 1 (by omega);rw [Addr.add_lit,Addr.add_lit] at this;exact this
      · have:=hc 2 (by omega);rw [Addr.add_lit,Addr.add_lit] at this;exact this
      · have:=hc 3 (by omega);rw [Addr.add_lit,Addr.add_lit] at this;exact this)
    refine ⟨some a,cap,(List.range len).map C,by simp,fun i c hc=>?_⟩
    have hi : i < len:=by have:=(List.getElem?_eq_some_iff.1 hc).1;simpa using this
    have e : c = C i:=by simp [hi] at hc;exact hc.symm
    subst e
    obtain ⟨off,ha,k⟩:=hC i hi
    exact ⟨a.block,off,by rw [← ha],k⟩
theorem blksOf {fuel : Nat} {v : Value} {x : DataW H × List MemPlace} (h : DataW.trod enc Tryz.prog w base spare held fuel 23 [v] = some x) : ∃ ad cap l,v = .slice ad l.length cap ∧ BlksAt w ad l:=by
  rcases open_slice Tryz.underlying23 h with ⟨e,_⟩|⟨a,len,cap,m,n,D,Pl,e,_,hlc,_,hm,_,hx⟩
  · simp at e;subst e
    exact ⟨none,0,[],rfl,fun i c hc=>by simp at hc⟩
  · simp at e;subst e
    have hlm : len ≤ m:=by rw [hm];split <;> omega
    obtain ⟨C,hC⟩:=choose_lt (α:=BlkM) (n:=len) (p:=fun i c=>∃ off,a = ⟨a.block,off,none⟩ ∧ w.cell? ⟨a.block,off + i * 5,none⟩ = some (.int .u64 c.cid.v) ∧ w.cell? ⟨a.block,off + i * 5 + 1,none⟩ = some (.int .u64 c.cid.codec) ∧ w.cell? ⟨a.block,off + i * 5 + 2,none⟩ = some (.int .u64 c.cid.code) ∧ w.cell? ⟨a.block,off + i * 5 + 3,none⟩ = some (.string ⟨c.cid.dig.toArray⟩) ∧ w.cell? ⟨a.block,off + i * 5 + 4,none⟩ = some (.string ⟨c.data.toArray⟩)) (fun i hi=>by
      obtain ⟨cs',h1,h2⟩:=hx i (by omega)
      obtain ⟨c,rfl⟩:=blkOf h2
      obtain ⟨_,_,hc⟩:=World.cells?_some h1
      rw [c_blk] at hc
      obtain ⟨cs0,g1,g2⟩:=hx 0 (by omega)
      obtain ⟨c0,rfl⟩:=blkOf g2
      obtain ⟨_,_,gc⟩:=World.cells?_some g1
      rw [c_blk] at gc
      obtain ⟨b,off,spot⟩:=a
      have h0:=gc 0 (by omega)
      have hspot : spot = none:=by simpa [Addr.add] using World.cell?_spot (h0.trans rfl)
      subst hspot
      refine ⟨c,off,rfl,?_,?_,?_,?_,?_⟩
      · have:=hc 0 (by omega);rw [Addr.add_lit,Addr.add_lit] at this;exact this
      · have:=hc 1 (by omega);rw [Addr.add_lit,Addr.add_lit] at this;exact this
      · have:=hc 2 (by omega);rw [Addr.add_lit,Addr.add_lit] at this;exact this
      · have:=hc 3 (by omega);rw [Addr.add_lit,Addr.add_lit] at this;exact this
      · have:=hc 4 (by omega);rw [Addr.add_lit,Addr.add_lit] at this;exact this)
    refine ⟨some a,cap,(List.range len).map C,by simp,fun i c hc=>?_⟩
    have hi : i < len:=by have:=(List.getElem?_eq_some_iff.1 hc).1;simpa using this
    have e : c = C i:=by simp [hi] at hc;exact hc.symm
    subst e
    obtain ⟨off,ha,k⟩:=hC i hi
    exact ⟨a.block,off,by rw [← ha],k⟩
theorem carOf {r : Reach} {b0 : Nat} {v : Value} {d : DataW H} {p : List MemPlace} (hv : Value.okWide Tryz.prog w r b0 25 v) (h : DataW.Trod enc Tryz.prog w base spare held 25 v d p) :
    ∃ ra ba rc bc c,v = carA ra ba rc bc c ∧ CarAt w ra ba c:=by
  obtain ⟨v0,v1,y0,y1,n,rfl,rfl,rfl,h0,h1⟩:=open_agg2 Tryz.underlying25 (by kernel_rfl) (by kernel_rfl) hv h
  obtain ⟨ra,rc,rl,rfl,hr⟩:=cidsOf h0
  obtain ⟨ba,bc,bl,rfl,hb⟩:=blksOf h1
  exact ⟨ra,ba,rc,bc,⟨rl,bl⟩,rfl,hr,hb⟩
end
end Go.Proofs.Wx

namespace Go.Proofs.Wx
open Go Go.RowKit Go.ChangeShapes Go.WideShapes Go.ChangeAt
open Go.Proofs.YtdokbceiganhdaaGreatDoor
theorem star_err : "*" ++ "errors.errorString" = "*errors.errorString" := by decide
theorem row_err (u : TypeId) (h : Tryz.prog.typeName? 3 u = some "*errors.errorString") : u = 223 :=
  typeName_ptr_named (nm := "errors.errorString") (by rw [star_err]; kernel_rfl) (by kernel_rfl) (by decide) u (by rw [star_err]; exact h)
theorem gEOF : Tryz.prog.globalNamed "io.EOF" = some 2 := by kernel_rfl
theorem gAlr : Tryz.prog.globalNamed "pub-droshky/pub/car.ErrAlreadyV1" = some 0 := by kernel_rfl
theorem oneLaid {n : String} {text : List UInt8} {W : World} {g : Nat} (h : laidMet Tryz.prog [(n, .iface "*errors.errorString" (.ptr (.agg [.lit (.string text)])))] W) (hg : Tryz.prog.globalNamed n = some g) (ht : (Tryz.prog.globals[g]?).map (·.type) = some 71) :
    ∃ a,W.cell? ⟨g,0,none⟩ = some (.iface 223 (.pointer (some a))):=by
  obtain ⟨a,s,hv,_⟩:=laid_sentinel h hg ht Tryz.underlying71 row_err Tryz.underlying223 Tryz.underlying225 rfl rfl Tryz.underlying9 (by kernel_rfl) (by kernel_rfl)
  exact ⟨a,by rw [World.var?_cell hg hv 0];rfl⟩
theorem laidTwo {W : World} (h : laidMetH Tryz.prog Rows.fnRoAttachRow.laid W) : (∃ ea,W.cell? ⟨2,0,none⟩ = some (.iface 223 (.pointer (some ea)))) ∧ ∃ aa,W.cell? ⟨0,0,none⟩ = some (.iface 223 (.pointer (some aa))):=by
  have h1 := h.filter (fun x => x.1 == "io.EOF")
  have h2 := h.filter (fun x => x.1 == "pub-droshky/pub/car.ErrAlreadyV1")
  have e1 : (Rows.fnRoAttachRow.laid.filter fun x => x.1 == "io.EOF") = [("io.EOF", Rows.laid_io_EOF)] := by kernel_rfl
  have e2 : (Rows.fnRoAttachRow.laid.filter fun x => x.1 == "pub-droshky/pub/car.ErrAlreadyV1") = [("pub-droshky/pub/car.ErrAlreadyV1", Rows.laid_pub_droshky_pub_car_ErrAlreadyV1)] := by kernel_rfl
  rw [e1,MakeChecks.laidMetH_plain _ _ _ (by kernel_rfl)] at h1
  rw [e2,MakeChecks.laidMetH_plain _ _ _ (by kernel_rfl)] at h2
  exact ⟨oneLaid h1 gEOF (by kernel_rfl),oneLaid h2 gAlr (by kernel_rfl)⟩
theorem sizeG {W : World} (h : W.ShapedOpen Tryz.prog) : 28 ≤ W.heap.size:=by
  have h1:=h.1 27
  obtain ⟨x,hx⟩ : ∃ x,((begin Tryz.prog (fun _ _=>0) default).world.heap[27]?).bind Obj.row? = some x:=Option.isSome_iff_exists.1 (by kernel_rfl)
  obtain ⟨cs,hc,_⟩:=h1 x.1 x.2 (by have : Tryz.prog.globals.size = 28:=(by kernel_rfl);omega) hx
  exact (Array.getElem?_eq_some_iff.1 hc).1
end Go.Proofs.Wx
