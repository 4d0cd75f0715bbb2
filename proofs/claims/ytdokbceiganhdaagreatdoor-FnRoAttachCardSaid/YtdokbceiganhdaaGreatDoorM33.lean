import Derived.Test.YtdokbceiganhdaaGreatDoorM9
import Derived.Test.YtdokbceiganhdaaGreatDoorM11
import Derived.Test.YtdokbceiganhdaaGreatDoorM32
set_option maxRecDepth 100000
set_option maxHeartbeats 1000000
set_option linter.unusedVariables false
set_option linter.unusedSimpArgs false
set_option linter.deprecated false
set_option linter.all false
set_option linter.unusedSectionVars false
namespace Go.Proofs.Wx
open Go Go.RowKit Go.Sort
abbrev oMwL0 : List (Nat × Cls):=[(0,.look),(1,.free),(2,.free),(3,.free),(4,.free),(5,.free),(6,.free),(7,.free),(8,.free),(9,.free),(10,.act)]
abbrev oMwL1 : List (Nat × Cls):=[(0,.free),(1,.free),(2,.look),(3,.free),(4,.free),(5,.free),(6,.look),(7,.act)]
theorem recC_get : ∀ {l : List Itm} {i : Nat} {x : Itm},l[i]? = some x → (recC l)[i * 2]? = some (.string ⟨x.1.bytes.toArray⟩) ∧ (recC l)[i * 2 + 1]? = some (.int .u64 x.2)
  | y :: l,0,x,h=>by simp at h;subst h;simp [recC]
  | y :: l,i + 1,x,h=>by
    have:=recC_get (l:=l) (i:=i) (x:=x) (by simpa using h)
    have e : (i + 1) * 2 = i * 2 + 1 + 1:=by omega
    rw [e]
    simpa [recC] using this
theorem recC_length (l : List Itm) : (recC l).length = l.length * 2:=by
  induction l with
  | nil=>rfl
  | cons x l ih=>simp [recC] at *;omega
theorem dr_slice : Tryz.prog.underlying 449 = some (.slice 452):=by kernel_rfl
theorem dr_info : (Tryz.prog.info? 452).map (fun i=>(i.zero,i.size,i.bytes)) = some (some (.agg #[.slice none 0 0,.int .u64 0]),2,32):=by kernel_rfl
theorem make_0 {T e : TypeId} {z : Value} {q : Nat} {sz : Nat} (hs : Tryz.prog.underlying T = some (.slice e)) (hi : (Tryz.prog.info? e).map (fun i=>(i.zero,i.size,i.bytes)) = some (some z,sz,q)) (hz : z.cells.size = sz) (w : World) :
    (Instr.makeSlice T (.int .i64 0) (.int .i64 0)).run Tryz.prog w = .ok (.slice (some ⟨w.heap.size,0,none⟩) 0 0) (w.alloc (.cells #[] e (0,0))):=by
  obtain ⟨i,hi,hz1,hs1,hby⟩:=info_parts hi
  have hr:=run_make (P:=Tryz.prog) w _ _ i z hs hi hz1 .i64 .i64 0 0 (by omega) (by omega) (by omega) (by omega)
  rw [hs1] at hr
  have e : madeCells z.cells (0 * sz) = #[]:=by simp [madeCells]
  simp only [Int.toNat_zero,e] at hr
  simpa [e] using hr
/-- make of an empty row of elements of two cells. -/
theorem make0K {o : Oper} {a : Act} {K : Act → World → Prop} {Q : Exit → Act → World → Prop} {w : World} (l c : Operand) (T e : TypeId) (ho : o.op = .makeSlice T l c) {z : Value} {q : Nat} (hs : Tryz.prog.underlying T = some (.slice e)) (hi : (Tryz.prog.info? e).map (fun i=>(i.zero,i.size,i.bytes)) = some (some z,2,q)) (hz : z.cells.size = 2)
    (hl : a.eval l = .int .i64 0) (hc : a.eval c = .int .i64 0) (G : Nat) (hG : G = w.heap.size)
    (h : ∀ w',Blk w' G [] e (0,0) → (∀ base,base ≤ G → w'.ownsRow base e 2 (.slice (some ⟨G,0,none⟩) 0 0) 0 []) → Fr [] w w' → K (a.put o.dst (.slice (some ⟨G,0,none⟩) 0 0)) w') : o.wp Tryz.prog a w K Q:=by
  subst hG
  have hr:=make_0 hs hi hz w
  unfold Oper.wp execOp
  simp only [ho,hl,hc,Sem.run_bind,Sem.run_pure,Result.andThen_ok,hr,Oper.upon_value]
  exact h _ Blk.new (fun base hb=>⟨by simp,.inr ⟨w.heap.size,0,#[],rfl,hb,Blk.new (cs:=[]),Nat.le_refl _,by unfold maxLen;omega,by simp,by simp⟩⟩) (Fr.alloc Fr.refl)
theorem drs_zero (w : World) : (zeroValue 449).run Tryz.prog w = .ok (.slice none 0 0) w:=by kernel_rfl
@[go_sem] theorem run_mkMap {P : Program} (t : TypeId) (w : World) : (Instr.makeMap t none).run P w = .ok (.map (some w.heap.size)) (w.alloc (.map #[] 0)):=rfl
def l1Rel (w : World) (base M : Nat) (L : List Itm) (k : Nat) (s23 : Value) (wr : World) : Prop :=
  ∃ d1 d2 ks rv dr,L = d1 ++ d2 ∧ d2.length = k ∧ s23 = .int .i64 d1.length ∧ L1 wr base M d1 [] ks rv dr ∧ Fr [] w wr
def l2Rel (w : World) (R M bm : Nat) (L : List Itm) (ks : List Nat) (rv : Nat → Value) (dr : Nat → List DRec) (k : Nat) (wr : World) : Prop :=
  ∃ rem done ib,rem.length = k ∧ L2 wr R M bm L ks rv dr rem done ib ∧ Fr [bm] w wr
def l3Rel (w5 : World) (g G n N : Nat) (D : List Nat) (rest : List Value) (d' : Array DRec) (k : Nat) (s88 : Value) (wr : World) : Prop :=
  ∃ j,s88 = .int .i64 (j : Nat) ∧ j + k = d'.size ∧ (recSt g D rest).S d' wr ∧ Blk wr G (by8 (rowsP ((d'.toList.take j).map DRec.pr)) ++ List.replicate (N - j * (n + 8)) (.int .u8 0)) 5 (0,0) ∧ Fr [G] w5 wr
set_option maxRecDepth 1000000 in
set_option maxHeartbeats 12800000 in
theorem mwLoad {w : World} {mb bm rb cap : Nat} {L : List Itm} {rest : List Value} (hm : w.cell? ⟨mb,0,none⟩ = some (.map (some bm))) (hml : mb < w.heap.size) (hmb : mb ≠ bm) (hB : Mp w bm .u32 []) (hI : Blk w rb (recC L ++ rest) 120 (0,0)) (hrb : rb ≠ bm)
    (hok : ∀ e ∈ L,e.1.Ok ∧ e.2 < 9223372036854775808) (hn : L.length ≤ 50) (hdis : Distinct L) (hLen : LenC) :
    Calls Tryz.prog 287 #[.pointer (some ⟨mb,0,none⟩),.slice (some ⟨rb,0,none⟩) L.length cap] w fun e w'=>e = .returned .nilIface ∧ ∃ ks ib,Grp w' bm (Nw w w' [bm]) L ks ib ∧ Fr [bm] w w':=by
  have hIl:=hI.lt
  have hBl:=hB.lt
  have HN:=Lib.hid hn
  have hM0 : Mp (w.alloc (.map #[] 0)) w.heap.size .i64 []:=Mp.new
  have hF0 : Fr [] w (w.alloc (.map #[] 0)):=Fr.alloc Fr.refl
  clear hn
  go_enter Tryz.func287,Tryz.ntmps287
  go_wp2_with (first
    | (refine wre 24 oMwL0 ?_)
    | (refine wre 27 oMwL1 ?_)
    | (with_reducible refine wEI ?_;(first|(refine wEN ?_;skip)|(refine wEF rfl (fun K hK=>?_);go_simp)|(refine wEL rfl rfl (fun K hK=>?_);go_simp)|(refine wER rfl (fun K hK=>?_);go_simp)|(refine wEM rfl (fun K hK=>?_);go_simp;try refine ⟨_,_,⟨rfl,rfl⟩,?_⟩)|(refine wEG rfl (fun K hK=>?_);go_simp)|(refine wEA rfl (fun K hK=>?_);go_simp))))
  generalize w.alloc (.map #[] 0) = w1 at *
  obtain ⟨M,hM⟩ : ∃ M,M = w.heap.size:=⟨_,rfl⟩
  rw [← hM] at hM0 ⊢
  have HM:=Lib.hid hM
  clear hM
  go_loopg [23] L.length (fun k s23 wr=>l1Rel w M M L k s23 wr)
  case atStart=>exact ⟨[],L,[],fun _=>undef,fun _=>[],rfl,rfl,rfl,L1.start hM0 (Nat.le_refl _),hF0⟩
  case round =>
    obtain ⟨d1,d2,ks,rv,dr,hL,hk,rfl,h1,hFr⟩:=hrel
    clear hM0 hF0
    have hIr:=hFr.blk hI (by simp)
    have hmr : wr.cell? ⟨mb,0,none⟩ = some (.map (some bm)):=by rw [World.cell?_of_block (w:=w) (hFr.block mb hml (by simp))];exact hm
    cases d2 with
    | nil =>
      have hz : ¬ (d1.length : Int) < (L.length : Int):=by rw [hL];simp
      have hd1 : d1 = L:=by simpa using hL.symm
      rw [hd1] at h1
      have hBr:=hB.fr hFr (by simp)
      obtain ⟨ob,hrg,hIt⟩:=h1.tab.map.range (P:=Tryz.prog) (T:=448) (K:=3) (E:=449) (by kernel_rfl)
      clear hL hk hd1
      go_wp2
      have hap:=h1.ap rfl
      have hMl:=h1.tab.map.lt
      have h2 : L2 (wr.alloc ob) wr.heap.size M bm L ks rv dr ks [] (fun _=>0):=h1.l2 hIt (hBr.fr (Fr.alloc Fr.refl : Fr [] wr (wr.alloc ob)) (by simp))
      have hF2 : Fr [] w (wr.alloc ob):=hFr.trans (Fr.alloc Fr.refl : Fr [] wr (wr.alloc ob)) (by simp)
      have hRs : wr.heap.size < (wr.alloc ob).heap.size:=by simp
      have hR0 : w.heap.size ≤ wr.heap.size:=hFr.size
      clear hrg hIt hBr
      generalize wr.alloc ob = w2 at *
      generalize wr.heap.size = R at *
      have hbmM : bm < M:=by have:=HM.out;omega
      have HP:=Lib.hid (And.intro hok (And.intro hdis (And.intro hap (And.intro h1 (And.intro hI hm)))))
      clear hok hdis hap h1 hI hm hmr hIr hFr
      go_loopg [] ks.length (fun k wr=>l2Rel w R M bm L ks rv dr k wr)
      case atStart=>exact ⟨ks,[],fun _=>0,rfl,h2,hF2.mono (by simp)⟩
      case round =>
        obtain ⟨rem,done,ib,hk,h2r,hFr⟩:=hrel
        clear h2 hF2
        have hmr : wr.cell? ⟨mb,0,none⟩ = some (.map (some bm)):=by rw [World.cell?_of_block (w:=w) (hFr.block mb hml (by simp [hmb]))];exact HP.out.2.2.2.2.2
        have hRr : R < wr.heap.size:=by obtain ⟨_,_,_,_,h2,_⟩:=h2r.it;exact (Array.getElem?_eq_some_iff.1 h2).1
        rcases h2r.it.next (P:=Tryz.prog) 0 (by omega) with ⟨h0,hrun⟩|⟨n,v,rem',w3,hperm,hrun,hI3,hE3,hF3⟩
        · have hr0 : rem = []:=by simpa using h0
          subst hr0
          clear hk
          go_wp2
          go_ret
          exact ⟨rfl,done,ib,h2r.grp HP.out.2.2.1 (D:=Nw w _ [bm]) (.inl (by simp)) (fun b h1 h2=>.inr ⟨by have:=HM.out;omega,by simpa using h2⟩) (by omega),hFr⟩
        · obtain ⟨hv,hre,hpm⟩:=perm_map hperm
          rw [hre] at hI3
          have hnr : n ∈ rem:=hpm.mem_iff.2 (by simp)
          obtain ⟨g,c,rest,hrv,hS,hgb,hgR,hDb,hpr⟩:=h2r.st HP.out.2.2.1 hnr
          rw [hrv] at hv
          subst hv
          obtain ⟨D,hD⟩ : ∃ D,D = (dr n).map (·.b):=⟨_,rfl⟩
          rw [← hD] at hS
          have hDR : ∀ k ∈ D,M ≤ k ∧ k < R:=by
            intro k hk
            rw [hD] at hk
            obtain ⟨x,hx,rfl⟩:=List.mem_map.1 hk
            exact hDb x hx
          have hS3:=(recSt g D rest).fr hS hF3 (by intro k hk hm;simp at hk;subst hk;rcases List.mem_cons.1 hm with h|h;omega;have:=hDR _ h;omega)
          have her:=hE3.run (P:=Tryz.prog)
          obtain ⟨hnks,hnd⟩:=h2r.fresh HP.out.2.2.1 hpm
          have hnL:=(HP.out.2.2.1.mem n).1 hnks
          have hn200 : (n : Int) ≤ 200:=by
            obtain ⟨e,he,rfl⟩:=List.mem_map.1 hnL
            have:=(HP.out.1 e he).1.len;omega
          have hcl : (dr n).length = (ofW L n).length:=by have:=congrArg List.length hpr;simpa using this
          have hc50 : (dr n).length ≤ 50:=by rw [hcl];exact Nat.le_trans (List.length_filter_le _ _) HN.out
          have hc1 : 1 ≤ (dr n).length:=by
            rw [hcl]
            obtain ⟨e,he,hen⟩:=List.mem_map.1 hnL
            exact List.length_pos_of_mem (List.mem_filter.2 ⟨he,by simpa using hen⟩)
          have hso:=recSort (c:=c) hLen hS3 (n:=(dr n).length) (by simp) (by omega)
          have hbl : bm < wr.heap.size:=h2r.mp.lt
          have HQ:=Lib.hid (And.intro hk (And.intro hpr (And.intro hpm (And.intro hrv (And.intro hD (And.intro hnd (And.intro hcl hre)))))))
          have hcz : ((dr n).length : Int) ≤ 50:=by omega
          have hcz1 : 1 ≤ ((dr n).length : Int):=by omega
          obtain ⟨Kb,hKb⟩ : ∃ Kb,Kb = (n + 8) * (dr n).length:=⟨_,rfl⟩
          have hKz : ((n : Int) + 8) * ((dr n).length : Int) = (Kb : Int):=by rw [hKb];push_cast;rfl
          have hK1 : Kb ≤ 208 * 50:=by rw [hKb];exact Nat.mul_le_mul (by omega) hc50
          have hKi : (Kb : Int) ≤ 10400:=by omega
          have HK:=Lib.hid (And.intro hKb (And.intro hcl hc50))
          have h3s:=hF3.size
          clear hk hpr hpm hrv hD hnd hcl hre hperm hS hS3 hnL hKb hnr hDb hc50 hK1
          go_wp2_with (first
            | go_at_call 295;refine hso.mono ?_;rintro e w4 ⟨rfl,d',hS4,hF4,hp4,hs4⟩;clear hso her hrun hE3
            | ((with_reducible refine list_makeSlice (fun K hK=>?_));  refine makeBk _ _ rfl _ _ _ _ Kb Kb w4.heap.size rfl rfl (by first|rfl|exact hKz) (by first|rfl|exact hKz) (Nat.le_refl _) (by omega) rfl (fun w5 hb5 hF5=>?_))
            | (refine wre 24 oMwL0 ?_)
            | (refine wre 27 oMwL1 ?_)
            | (with_reducible refine wEI ?_;(first|(refine wEN ?_;skip)|(refine wEF rfl (fun K hK=>?_);go_simp)|(refine wEL rfl rfl (fun K hK=>?_);go_simp)|(refine wER rfl (fun K hK=>?_);go_simp)|(refine wEM rfl (fun K hK=>?_);go_simp;try refine ⟨_,_,⟨rfl,rfl⟩,?_⟩)|(refine wEG rfl (fun K hK=>?_);go_simp)|(refine wpE_actp rfl rfl (fun K hK=>?_);simp only [List.getElem_toArray,List.getElem_cons_succ,List.getElem_cons_zero];(first|((with_reducible refine op_makeSlice ?_);  refine makeBk _ _ rfl _ _ _ _ Kb Kb w4.heap.size rfl rfl (by first|rfl|exact hKz) (by first|rfl|exact hKz) (Nat.le_refl _) (by omega) rfl (fun w5 hb5 hF5=>?_))))|(refine wEA rfl (fun K hK=>?_);go_simp))))
          have h4s:=hF4.size
          have hG4 : w3.heap.size ≤ w4.heap.size:=h4s
          generalize hGe : w4.heap.size = G at *
          have HG:=Lib.hid hGe
          clear hGe
          obtain ⟨hds,hdp,hdr⟩:=sorted_rows rfl hp4 hs4 HQ.out.2.1 (HP.out.2.1.filter _)
          have hdx : ∀ x ∈ d'.toList,∃ e ∈ L,x.dig = e.1.dig ∧ x.off = e.2 ∧ x.dig.length = n:=fun x hx=>pr_mem HQ.out.2.1 (hdp.mem_iff.1 hx)
          have hGD : G ∉ g :: D:=by intro hm;rcases List.mem_cons.1 hm with h|h;omega;have:=hDR _ h;omega
          have hS5:=(recSt g D rest).fr hS4 hF5 (by simp)
          have HD:=Lib.hid (And.intro hds (And.intro hdp (And.intro hdr hdx)))
          clear hp4 hs4 hS4 hds hdp hdr hdx
          go_loopg [88] (dr n).length (fun k s88 wr=>l3Rel w5 g G n Kb D rest d' k s88 wr)
          case atStart =>
            refine ⟨0,rfl,by have:=HD.out.1;omega,hS5,?_,Fr.refl⟩
            exact Blk.conv hb5 (by simp [rowsP,by8])
          case round =>
            rename World=>wq
            obtain ⟨j,rfl,hjk,hSj,hBj,hFj⟩:=hrel
            clear hb5 hS5
            have hdn:=HD.out.1
            have hcl5 : (dr n).length ≤ 50:=by omega
            by_cases hj : j < d'.size
            · have hjz : (j : Int) < ((dr n).length : Int):=by omega
              obtain ⟨x,hx⟩ : ∃ x,x = d'[j]!:=⟨_,rfl⟩
              have gx : d'.toList[j]? = some x:=by rw [hx];simp [hj]
              have gtk : d'.toList.take (j + 1) = d'.toList.take j ++ [x]:=by rw [List.take_succ,gx];rfl
              have hBr : Blk wq g (encs d'.toList ++ rest) 452 (0,0):=hSj.1
              have bx:=(hSj.2.1 x (List.mem_of_getElem? gx))
              have cx : wq.cell? ⟨g,j * 2,none⟩ = some (.slice (some ⟨x.b,x.o,none⟩) x.dig.length x.c):=by
                rw [hBr.cell,List.getElem?_append_left (by rw [encs_length];simp;omega)];exact (encs_get gx).1
              have cx2 : wq.cell? ⟨g,j * 2 + 1,none⟩ = some (.int .u64 x.off):=by
                rw [hBr.cell,List.getElem?_append_left (by rw [encs_length];simp;omega)];exact (encs_get gx).2
              obtain ⟨ex,hex,hx1,hx2,hx3⟩:=HD.out.2.2.2 x (List.mem_of_getElem? gx)
              have hxo : x.off < 18446744073709551616:=by rw [hx2];have:=(HP.out.1 ex hex).2;omega
              obtain ⟨A,hA⟩ : ∃ A,A = rowsP (List.map DRec.pr (List.take j d'.toList)):=⟨_,rfl⟩
              have hAl : A.length = (n + 8) * j:=by
                rw [hA,rowsP_length (n:=n) fun y hy=>(HD.out.2.2.2 y (List.mem_of_mem_take hy)).choose_spec.2.2.2,show (List.take j d'.toList).length = j by simp;omega]
              obtain ⟨a,ha⟩ : ∃ a,a = j * (n + 8):=⟨_,rfl⟩
              rw [← hA,← ha] at hBj
              have A1 : (j : Int) * ((n : Int) + 8) = (a : Int):=by rw [ha];push_cast;rfl
              have A2 : ((j : Int) + 1) * ((n : Int) + 8) = (a : Int) + ((n : Int) + 8):=by rw [Int.add_mul,A1,Int.one_mul]
              have hab : a + (n + 8) ≤ Kb:=by
                rw [ha,HK.out.1,← Nat.succ_mul,Nat.mul_comm]
                exact Nat.mul_le_mul (Nat.le_refl _) (by omega)
              have habz : (a : Int) + ((n : Int) + 8) ≤ (Kb : Int):=by omega
              have hbG : x.b ≠ G:=fun e=>hGD (by rw [← e];exact List.mem_cons_of_mem _ bx.2)
              have hgG : G ≠ g:=fun e=>hGD (by rw [e];simp)
              have hGl:=hBj.lt
              have hwr:=fun (w1 : World) (h1 : Blk w1 G (by8 A ++ List.replicate (Kb - a) (.int .u8 0)) 5 (0,0)) (h2 : Bs w1 x.b x.o x.dig)=>recWrite (A:=A) (g:=G) (o:=a) (n:=n + 8) (c:=Kb - a) (k:=Kb - a) (b:=x.b) (so:=x.o) (dc:=x.c) (off:=x.off) h1 (by rw [hAl,ha,Nat.mul_comm]) (by rw [hx3]) (by omega) (by omega) h2 hbG hxo (by rw [hx3];omega)
              obtain ⟨Z,hZ⟩ : ∃ Z,Hid (Z = x.dig ++ Lib.leBytes 8 x.off):=⟨_,rfl⟩
              simp only [← hZ.out] at hwr
              have hj9 : (j : Int) ≤ 50:=by omega
              have wA : IntKind.i64.wrap (a : Int) = (a : Int):=by simp [IntKind.wrap,IntKind.bits,IntKind.signed];omega
              have wJ : IntKind.i64.wrap ((j : Int) + 1) = (j : Int) + 1:=by simp [IntKind.wrap,IntKind.bits,IntKind.signed];omega
              have wN : IntKind.i64.wrap ((a : Int) + ((n : Int) + 8)) = (a : Int) + ((n : Int) + 8):=by simp [IntKind.wrap,IntKind.bits,IntKind.signed];omega
              have hab2 : (a : Int) ≤ (a : Int) + ((n : Int) + 8):=by omega
              have hne : ¬ Kb = a:=by omega
              have hlt : ((a : Int) + ((n : Int) + 8)).toNat = a + (n + 8):=by omega
              have bxB:=bx.1
              have HJ:=Lib.hid (And.intro hA (And.intro hAl (And.intro ha (And.intro gtk (And.intro hjk (And.intro hx3 bx.2))))))
              clear hx gx gtk hA hAl ha hab hx1 hx2 hx3 hjk bx hdn hBr
              go_wp2_with (first
                | go_at_call 296;refine (hwr _ (by exact blkP) (bxB.fr (S:=[]) (by exact frP) (by simp))).mono ?_;rintro e w7 ⟨rfl,hB7,hF7⟩
                | (refine wre 24 oMwL0 ?_)
                | (refine wre 27 oMwL1 ?_)
                | (with_reducible refine wEI ?_;(first|(refine wEN ?_;skip)|(refine wEF rfl (fun K hK=>?_);go_simp)|(refine wEL rfl rfl (fun K hK=>?_);go_simp)|(refine wER rfl (fun K hK=>?_);go_simp)|(refine wEM rfl (fun K hK=>?_);go_simp;try refine ⟨_,_,⟨rfl,rfl⟩,?_⟩)|(refine wEG rfl (fun K hK=>?_);go_simp)|(refine wEA rfl (fun K hK=>?_);go_simp))))
              go_roundg ((dr n).length - (j + 1))
              case measure=>have:=HJ.out.2.2.2.2.1;have:=HD.out.1;omega
              case rel =>
                obtain ⟨hA,hAl,ha,gtk,hjk,hx3,hxD⟩:=HJ.out
                have hF : Fr [G] wq w7:=Fr.trans (S:=[G]) (by exact frP) hF7 (fun k hk _=>hk)
                refine ⟨j + 1,by first|rfl|(push_cast;rfl),by have:=HD.out.1;omega,(recSt g D rest).fr hSj hF (by intro k hk hm;simp at hk;subst hk;exact hGD hm),Blk.conv hB7 ?_,hFj.trans hF (fun k hk _=>hk)⟩
                rw [gtk,List.map_append,hZ.out,hA,show Kb - a - (n + 8) = Kb - (j + 1) * (n + 8) by rw [ha,Nat.add_mul];omega]
                simp [rowsP,rowP,DRec.pr]
            · have hjE : j = d'.size:=by omega
              have hjz : ¬ (j : Int) < ((dr n).length : Int):=by omega
              have hFq : Fr (R :: g :: D) wr wq:=(((hF3.mono (by simp)).trans hF4 (by intro k hk _;simp at hk;rcases hk with rfl|hk;simp;simp [hk])).trans hF5 (by simp)).trans hFj (by intro k hk hl;simp at hk;omega)
              have hgq : ∀ k ∈ R :: g :: D,M ≤ k:=by
                intro k hk
                simp at hk
                rcases hk with rfl|rfl|hk
                · omega
                · omega
                · exact (hDR k hk).1
              have hMq:=h2r.mp.fr hFq (fun hm=>by have:=hgq _ hm;omega)
              have hmw : mb < M:=by have:=HM.out;omega
              have hmq : wq.cell? ⟨mb,0,none⟩ = some (.map (some bm)):=by rw [World.cell?_of_block (w:=wr) (hFq.block mb (by have:=hFr.size;have:=HM.out;omega) (fun hm=>by have:=hgq _ hm;omega))];exact hmr
              have hmlq : mb < wq.heap.size:=by have:=hFr.size;have:=hFq.size;omega
              have hBf : Bs wq G 0 (rowsP (d'.toList.map DRec.pr)):=by
                refine Blk.bs (pre:=[]) (post:=List.replicate (Kb - j * (n + 8)) (.int .u8 0)) hBj ?_ rfl
                rw [hjE,List.take_of_length_le (by simp)];simp
              rw [HD.out.2.2.1] at hBf
              have wU1 : IntKind.u32.wrap ((n : Int) + 8) = (n : Int) + 8:=by simp [IntKind.wrap,IntKind.bits,IntKind.signed];omega
              have wU0 : IntKind.u32.wrap (n : Int) = (n : Int):=by simp [IntKind.wrap,IntKind.bits,IntKind.signed];omega
              have wU2 : IntKind.u64.wrap ((dr n).length : Int) = ((dr n).length : Int):=by simp [IntKind.wrap,IntKind.bits,IntKind.signed];omega
              have hsw : swV n (ofW L n).length G = .agg #[.int .u32 ((n : Int) + 8),.int .u64 ((dr n).length : Nat),.slice (some ⟨G,0,none⟩) Kb Kb]:=by
                obtain ⟨k1,k2,_⟩:=HK.out
                unfold swV;rw [← k2,← k1];push_cast;rfl
              have HS:=Lib.hid (And.intro hsw (And.intro hjE hdn))
              clear hsw hjE hdn hSj hBj hj hjk
              go_wp2_with (first
                | ((with_reducible refine list_mapUpdate (fun K hK=>?_));  refine putStep _ _ _ 237 rfl (b:=bm) (n:=n + 8) (q:=.u32) (x:=.agg #[.int .u32 ((n : Int) + 8),.int .u64 ((dr n).length : Nat),.slice (some ⟨G,0,none⟩) Kb Kb]) rfl rfl rfl (hMq.fr (S:=[]) (by exact frP) (by simp)) (Kt:=211) (E:=457) (by kernel_rfl) (by kernel_rfl) (fun w8 hF8 hP8=>?_))
                | (refine wre 24 oMwL0 ?_)
                | (refine wre 27 oMwL1 ?_)
                | (with_reducible refine wEI ?_;(first|(refine wEN ?_;skip)|(refine wEF rfl (fun K hK=>?_);go_simp)|(refine wEL rfl rfl (fun K hK=>?_);go_simp)|(refine wER rfl (fun K hK=>?_);go_simp)|(refine wEM rfl (fun K hK=>?_);go_simp;try refine ⟨_,_,⟨rfl,rfl⟩,?_⟩)|(refine wEG rfl (fun K hK=>?_);go_simp)|(refine wpE_actp rfl rfl (fun K hK=>?_);simp only [List.getElem_toArray,List.getElem_cons_succ,List.getElem_cons_zero];(first|((with_reducible refine op_mapUpdate ?_);  refine putStep _ _ _ 237 rfl (b:=bm) (n:=n + 8) (q:=.u32) (x:=.agg #[.int .u32 ((n : Int) + 8),.int .u64 ((dr n).length : Nat),.slice (some ⟨G,0,none⟩) Kb Kb]) rfl rfl rfl (hMq.fr (S:=[]) (by exact frP) (by simp)) (Kt:=211) (E:=457) (by kernel_rfl) (by kernel_rfl) (fun w8 hF8 hP8=>?_))))|(refine wEA rfl (fun K hK=>?_);go_simp))))
              go_roundg rem'.length
              case measure=>have:=HQ.out.1;have:=HQ.out.2.2.1.length_eq;simp at this;omega
              case rel =>
                obtain ⟨hk,hpr,hpm,hrv,hD,hnd,hcl,hre⟩:=HQ.out
                have hF8' : Fr [bm] wq w8:=Fr.trans (S:=[bm]) (by exact frP) hF8 (fun k hk _=>hk)
                have hM8 : Mp w8 bm .u32 ((done.map fun n=>(n + 8,swV n (ofW L n).length (ib n))) ++ [(n + 8,swV n (ofW L n).length G)]):=by
                  rw [HS.out.1]
                  rcases hP8 with h|⟨j,v0,_,h,_⟩
                  · exact h.2
                  · rw [look_none hnd] at h;cases h
                have hFt : Fr (R :: bm :: g :: (dr n).map (·.b)) wr w8:=by
                  rw [← hD]
                  exact (hFq.mono (by intro k hk;simp at hk;rcases hk with rfl|rfl|hk;simp;simp;simp [hk])).trans hF8' (by simp)
                have hI8 : It w8 R M .i64 ((rem'.map (·.1)).map fun n=>(n,rv n)):=by
                  have hF38 : Fr (bm :: g :: G :: D) w3 w8:=(((hF4.mono (by intro k hk;simp at hk;rcases hk with rfl|hk;simp;simp [hk])).trans hF5 (by simp)).trans hFj (by simp)).trans hF8' (by simp)
                  refine hI3.fr hF38 ?_ ?_
                  · simp;exact ⟨by omega,by omega,by omega,fun hm=>by have:=hDR _ hm;omega⟩
                  · simp
                    have hM1:=HP.out.2.2.1.lt hMl hnks (g:=g) (by rw [hrv];rfl)
                    refine ⟨by omega,fun e=>hM1.2.2.1 e.symm,by omega,fun hm=>?_⟩
                    rw [hD] at hm
                    obtain ⟨x,hx,e⟩:=List.mem_map.1 hm
                    exact (HP.out.2.2.1.dg n hnks x hx).2.2 e
                refine ⟨rem'.map (·.1),done ++ [n],upd ib n G,by simp,h2r.step HP.out.2.2.1 hMl hbmM (by omega) hpm hI8 (by rw [hrv];rfl) hFt hM8 (hBf.fr hF8' (by simp;omega)) (by omega),?_⟩
                refine hFr.trans hFt ?_
                intro k hk hl
                simp at hk
                rcases hk with rfl|rfl|rfl|⟨x,hx,rfl⟩
                · omega
                · simp
                · have:=HM.out;omega
                · have:=(HP.out.2.2.1.dg n hnks x hx).1;have:=HM.out;omega
    | cons e d2 =>
      have hz : (d1.length : Int) < (L.length : Int):=by rw [hL];simp;omega
      have hge : L[d1.length]? = some e:=by rw [hL];simp
      have hem : e ∈ L:=List.mem_of_getElem? hge
      obtain ⟨hok1,hok2⟩:=hok e hem
      have cl : d1.length * 2 + 1 < (recC L).length:=by rw [recC_length];omega
      have c1 : wr.cell? ⟨rb,d1.length * 2,none⟩ = some (.string ⟨e.1.bytes.toArray⟩):=by rw [hIr.cell,List.getElem?_append_left (by omega)];exact (recC_get hge).1
      have c2 : wr.cell? ⟨rb,d1.length * 2 + 1,none⟩ = some (.int .u64 e.2):=by rw [hIr.cell,List.getElem?_append_left cl];exact (recC_get hge).2
      have hha:=fun w=>cidHash (w:=w) hok1
      have hcl:=hok1.code_lt
      have hdl:=hok1.len
      have HR:=Lib.hid (And.intro hL (And.intro hk (And.intro hge (And.intro hem (And.intro hok1 hIr)))))
      clear hk hge hem hok1 hIr cl hm hI
      have hmlr : mb < wr.heap.size:=Nat.lt_of_lt_of_le hml hFr.size
      have hMw : M ≤ wr.heap.size:=by have:=hFr.size;have:=HM.out;omega
      by_cases hn : e.1.dig.length ∈ ks
      · obtain ⟨g,c,hrv,hgM⟩:=h1.tab.sl _ hn
        rw [List.length_map] at hrv
        have HV:=Lib.hid (And.intro hrv hn)
        have hfs:=fun bh hb=>h1.fresh (bh:=bh) hb
        have hcnt : (dr e.1.dig.length).length ≤ 50:=h1.cnt HN.out hL hn
        clear hL
        go_wp2_with (first
          | go_at_call 285;refine (hha _).mono ?_;rintro ex w2 ⟨vh,bh,rfl,hbh,hSh,hF2⟩;have hT2 : Blk w2 wr.heap.size [.string ⟨e.1.bytes.toArray⟩,.int .u64 e.2] 120 (0,0):=hF2.blk (by (exact Blk.conv (by repeat (first|(with_reducible assumption)|(with_reducible apply Blk.drew)|(with_reducible apply Blk.drewN)|(with_reducible apply Blk.set)|(with_reducible apply Blk.setRow)|(with_reducible exact Blk.new)|(exact Blk.newAt rfl)|(with_reducible apply Blk.setNe (by (first|(with_reducible assumption)|(simp;omega)|(simp [*];done))))|(with_reducible apply Blk.setRowNe (by (first|(with_reducible assumption)|(simp;omega)|(simp [*];done))))|(with_reducible apply Blk.alloc))) (by first|rfl|(simp;done)|(simp;omega)))) (by simp);have hF02 : Fr [] wr w2:=Fr.trans (S:=[]) (by exact frP) hF2 (by simp);clear hF2
          | go_at_call 149;refine (mhDecodeP hSh hcl (by omega)).mono ?_;rintro ex w3 ⟨p,rfl,hp,⟨vd,hD,hSd⟩,hF3⟩;have hT3:=hF3.blk hT2 (by simp);have hF03 : Fr [] wr w3:=hF02.trans hF3 (by simp);have hsz2:=hF02.size;clear hF3 hF02 hT2 hSh;obtain ⟨od,cd,rfl,hcd1,hcd2,hBd⟩:=hSd;have dc3:=hD.cells;have tc3:=hT3.cells;have h3:=h1.fr hF03 hMw (by simp);have hmr3 : w3.cell? ⟨mb,0,none⟩ = some (.map (some bm)):=(by rw [World.cell?_of_block (w:=wr) (hF03.block mb hmlr (by simp))];exact hmr);have hlk:=h3.tab.map.look (P:=Tryz.prog) (T:=448) (K:=3) (E:=449) (by kernel_rfl) (by kernel_rfl) drs_zero e.1.dig.length true;rw [look_map] at hlk;simp only [if_pos hn,if_true,Option.getD_some,Option.isSome_some,hrv] at hlk;have hO3:=hrv ▸ h3.own hn;clear hrv hn
          | ((with_reducible refine list_bi .append (fun K hK=>?_));  refine appOwnX _ _ 449 rfl M 452 (.agg #[.slice none 0 0,.int .u64 0]) 2 32 dr_slice dr_info rfl (by omega) (.slice (some ⟨g,0,none⟩) (dr e.1.dig.length).length c) _ _ rfl (own_fr (S:=[]) hO3 (by exact frP) (by simp)) _ 1 _ [.slice (some ⟨bh,od,none⟩) e.1.dig.length cd,.int .u64 e.2] rfl (by omega) rfl (newTwo (by simp)) (by intro u hu;simp at hu;rcases hu with rfl|rfl <;> rfl) (by omega) (by omega) (by have:=hF03.size;simp;omega) (fun v6 w6 hO6 hF6 hw6 hs6=>?_);obtain ⟨g6,c6,rfl⟩:=hs6;have hF36 : Fr [g] w3 w6:=Fr.trans (S:=[g]) (by exact frP) hF6 (by simp [Value.ownBlock]);have hM6:=h3.tab.map.fr hF36 (by simp;omega);have hg6 : g6 = g ∨ w3.heap.size ≤ g6:=(by rcases hw6 with h|h <;> simp [Value.ownBlock] at h <;> omega);clear hF6 hlk hw6)
          | ((with_reducible refine list_mapUpdate (fun K hK=>?_));  refine putStep _ _ _ 448 rfl (b:=M) (n:=e.1.dig.length) (q:=.i64) (x:=.slice (some ⟨g6,0,none⟩) ((dr e.1.dig.length).length + 1) c6) rfl rfl rfl hM6 (Kt:=3) (E:=449) (by kernel_rfl) (by kernel_rfl) (fun w7 hF7 hP7=>?_))
          | (refine wre 24 oMwL0 ?_)
          | (refine wre 27 oMwL1 ?_)
          | (with_reducible refine wEI ?_;(first|(refine wEN ?_;skip)|(refine wEF rfl (fun K hK=>?_);go_simp)|(refine wEL rfl rfl (fun K hK=>?_);go_simp)|(refine wER rfl (fun K hK=>?_);go_simp)|(refine wEM rfl (fun K hK=>?_);go_simp;try refine ⟨_,_,⟨rfl,rfl⟩,?_⟩)|(refine wEG rfl (fun K hK=>?_);go_simp)|(refine wpE_actp rfl rfl (fun K hK=>?_);simp only [List.getElem_toArray,List.getElem_cons_succ,List.getElem_cons_zero];(first|((with_reducible refine op_bi .append ?_);  refine appOwnX _ _ 449 rfl M 452 (.agg #[.slice none 0 0,.int .u64 0]) 2 32 dr_slice dr_info rfl (by omega) (.slice (some ⟨g,0,none⟩) (dr e.1.dig.length).length c) _ _ rfl (own_fr (S:=[]) hO3 (by exact frP) (by simp)) _ 1 _ [.slice (some ⟨bh,od,none⟩) e.1.dig.length cd,.int .u64 e.2] rfl (by omega) rfl (newTwo (by simp)) (by intro u hu;simp at hu;rcases hu with rfl|rfl <;> rfl) (by omega) (by omega) (by have:=hF03.size;simp;omega) (fun v6 w6 hO6 hF6 hw6 hs6=>?_);obtain ⟨g6,c6,rfl⟩:=hs6;have hF36 : Fr [g] w3 w6:=Fr.trans (S:=[g]) (by exact frP) hF6 (by simp [Value.ownBlock]);have hM6:=h3.tab.map.fr hF36 (by simp;omega);have hg6 : g6 = g ∨ w3.heap.size ≤ g6:=(by rcases hw6 with h|h <;> simp [Value.ownBlock] at h <;> omega);clear hF6 hlk hw6)|((with_reducible refine op_mapUpdate ?_);  refine putStep _ _ _ 448 rfl (b:=M) (n:=e.1.dig.length) (q:=.i64) (x:=.slice (some ⟨g6,0,none⟩) ((dr e.1.dig.length).length + 1) c6) rfl rfl rfl hM6 (Kt:=3) (E:=449) (by kernel_rfl) (by kernel_rfl) (fun w7 hF7 hP7=>?_))))|(refine wEA rfl (fun K hK=>?_);go_simp))))
        go_roundg d2.length
        case measure=>have:=HR.out.2.1;simp at this;omega
        case rel =>
          obtain ⟨hL,hk,hge,hem,hok1,hIr⟩:=HR.out
          have hFw : Fr [] w w7:=((hFr.trans hF03 (by simp)).trans hF36 (by intro k hk hl;simp at hk;have:=HM.out;have:=(h1.tab.ownLt HV.out.2 (by rw [HV.out.1];rfl : (rv e.1.dig.length).ownBlock = some g)).1;omega)).trans hF7 (by intro k hk hl;simp at hk;have:=HM.out;omega)
          refine ⟨d1 ++ [e],d2,_,_,_,by rw [hL];simp,rfl,by rw [wrap64_in (by omega) (by have:=HN.out;have:=congrArg List.length hL;simp at this;omega)];simp,h3.step (n:=e.1.dig.length) (.inl rfl) rfl HV.out.2 HV.out.1 (hfs bh (by simp at hbh;omega)) hBd hF36 hO6 hg6 hF7 hP7,hFw⟩
      · have hfs:=fun bh hb=>h1.fresh (bh:=bh) hb
        have HNK:=Lib.hid hn
        have hMl:=h1.tab.map.lt
        clear hL
        go_wp2_with (first
          | go_at_call 285;refine (hha _).mono ?_;rintro ex w2 ⟨vh,bh,rfl,hbh,hSh,hF2⟩;have hT2 : Blk w2 wr.heap.size [.string ⟨e.1.bytes.toArray⟩,.int .u64 e.2] 120 (0,0):=hF2.blk (by (exact Blk.conv (by repeat (first|(with_reducible assumption)|(with_reducible apply Blk.drew)|(with_reducible apply Blk.drewN)|(with_reducible apply Blk.set)|(with_reducible apply Blk.setRow)|(with_reducible exact Blk.new)|(exact Blk.newAt rfl)|(with_reducible apply Blk.setNe (by (first|(with_reducible assumption)|(simp;omega)|(simp [*];done))))|(with_reducible apply Blk.setRowNe (by (first|(with_reducible assumption)|(simp;omega)|(simp [*];done))))|(with_reducible apply Blk.alloc))) (by first|rfl|(simp;done)|(simp;omega)))) (by simp);have hF02 : Fr [] wr w2:=Fr.trans (S:=[]) (by exact frP) hF2 (by simp);clear hF2
          | go_at_call 149;refine (mhDecodeP hSh hcl (by omega)).mono ?_;rintro ex w3 ⟨p,rfl,hp,⟨vd,hD,hSd⟩,hF3⟩;have hT3:=hF3.blk hT2 (by simp);have hF03 : Fr [] wr w3:=hF02.trans hF3 (by simp);have hsz2:=hF02.size;clear hF3 hF02 hT2 hSh;obtain ⟨od,cd,rfl,hcd1,hcd2,hBd⟩:=hSd;have dc3:=hD.cells;have tc3:=hT3.cells;have h3:=h1.fr hF03 hMw (by simp);have hmr3 : w3.cell? ⟨mb,0,none⟩ = some (.map (some bm)):=(by rw [World.cell?_of_block (w:=wr) (hF03.block mb hmlr (by simp))];exact hmr);have hlk:=h3.tab.map.look (P:=Tryz.prog) (T:=448) (K:=3) (E:=449) (by kernel_rfl) (by kernel_rfl) drs_zero e.1.dig.length true;rw [look_map] at hlk;simp only [if_neg hn,if_true,Option.getD_none,Option.isSome_none] at hlk;obtain ⟨G,hG⟩ : ∃ G,G = w3.heap.size:=⟨_,rfl⟩;have HG:=Lib.hid hG;clear hG hn
          | ((with_reducible refine list_makeSlice (fun K hK=>?_));  refine make0K _ _ 449 452 rfl dr_slice dr_info rfl rfl rfl G HG.out (fun w4 hg4 hO4 hF4=>?_);have hM4:=h3.tab.map.fr hF4 (by simp);clear hlk)
          | ((with_reducible refine list_mapUpdate (fun K hK=>?_));  refine putStep _ _ _ 448 rfl (b:=M) (n:=e.1.dig.length) (q:=.i64) (x:=.slice (some ⟨G,0,none⟩) 0 0) rfl rfl rfl hM4 (Kt:=3) (E:=449) (by kernel_rfl) (by kernel_rfl) (fun w5 hF5 hP5=>?_);clear hM4;have hM5 : Mp w5 M .i64 ((ks.map fun n=>(n,rv n)) ++ [(e.1.dig.length,.slice (some ⟨G,0,none⟩) 0 0)]):=(by rcases hP5 with h|⟨j,v0,_,h,_⟩;exact h.2;rw [look_map,if_neg HNK.out] at h;cases h);have hMG : M < G:=(by have:=HG.out;have:=h3.tab.map.lt;omega);have hF35 : Fr [M] w3 w5:=Fr.trans (S:=[M]) (hF4.mono (by simp)) hF5 (fun k hk _=>hk);have h5:=h3.add HNK.out hF35 (own_fr (hO4 M (by omega)) hF5 (by simp [Value.ownBlock];omega)) (Nat.le_of_eq HG.out.symm) hM5;clear hP5 hM5;have hlk:=h5.tab.map.look (P:=Tryz.prog) (T:=448) (K:=3) (E:=449) (by kernel_rfl) (by kernel_rfl) drs_zero e.1.dig.length false;rw [look_map] at hlk;simp only [if_pos (show e.1.dig.length ∈ ks ++ [e.1.dig.length] by simp),Bool.false_eq_true,if_false,Option.getD_some,upd_same] at hlk;have hTl:=hT3.lt;have hpl:=hD.lt;have tc5:=(hF35.blk hT3 (by simp;omega)).cells;have dc5:=(hF35.blk hD (by simp;omega)).cells;clear tc3 dc3;have hO5 : w5.ownsRow M 452 2 (.slice (some ⟨G,0,none⟩) 0 0) 0 []:=own_fr (hO4 M (by omega)) hF5 (by simp [Value.ownBlock];omega))
          | ((with_reducible refine list_bi .append (fun K hK=>?_));  refine appOwnX _ _ 449 rfl M 452 (.agg #[.slice none 0 0,.int .u64 0]) 2 32 dr_slice dr_info rfl (by omega) (.slice (some ⟨G,0,none⟩) 0 0) 0 [] rfl (own_fr (S:=[]) hO5 (by exact frP) (by simp)) _ 1 _ [.slice (some ⟨bh,od,none⟩) e.1.dig.length cd,.int .u64 e.2] rfl (by omega) rfl (newTwo (by simp)) (by intro u hu;simp at hu;rcases hu with rfl|rfl <;> rfl) (by omega) (by omega) (by have:=hF35.size;simp;omega) (fun v6 w6 hO6 hF6 hw6 hs6=>?_);obtain ⟨g6,c6,rfl⟩:=hs6;have hF56 : Fr [G] w5 w6:=Fr.trans (S:=[G]) (by exact frP) hF6 (by simp [Value.ownBlock]);have hM6:=h5.tab.map.fr hF56 (by simp;omega);have hg6 : g6 = G ∨ w5.heap.size ≤ g6:=(by rcases hw6 with h|h <;> simp [Value.ownBlock] at h <;> omega);clear hF6 hlk hw6)
          | ((with_reducible refine list_mapUpdate (fun K hK=>?_));  refine putStep _ _ _ 448 rfl (b:=M) (n:=e.1.dig.length) (q:=.i64) (x:=.slice (some ⟨g6,0,none⟩) (0 + 1) c6) rfl rfl rfl hM6 (Kt:=3) (E:=449) (by kernel_rfl) (by kernel_rfl) (fun w7 hF7 hP7=>?_))
          | (refine wre 24 oMwL0 ?_)
          | (refine wre 27 oMwL1 ?_)
          | (with_reducible refine wEI ?_;(first|(refine wEN ?_;skip)|(refine wEF rfl (fun K hK=>?_);go_simp)|(refine wEL rfl rfl (fun K hK=>?_);go_simp)|(refine wER rfl (fun K hK=>?_);go_simp)|(refine wEM rfl (fun K hK=>?_);go_simp;try refine ⟨_,_,⟨rfl,rfl⟩,?_⟩)|(refine wEG rfl (fun K hK=>?_);go_simp)|(refine wpE_actp rfl rfl (fun K hK=>?_);simp only [List.getElem_toArray,List.getElem_cons_succ,List.getElem_cons_zero];(first|((with_reducible refine op_makeSlice ?_);  refine make0K _ _ 449 452 rfl dr_slice dr_info rfl rfl rfl G HG.out (fun w4 hg4 hO4 hF4=>?_);have hM4:=h3.tab.map.fr hF4 (by simp);clear hlk)|((with_reducible refine op_mapUpdate ?_);  refine putStep _ _ _ 448 rfl (b:=M) (n:=e.1.dig.length) (q:=.i64) (x:=.slice (some ⟨G,0,none⟩) 0 0) rfl rfl rfl hM4 (Kt:=3) (E:=449) (by kernel_rfl) (by kernel_rfl) (fun w5 hF5 hP5=>?_);clear hM4;have hM5 : Mp w5 M .i64 ((ks.map fun n=>(n,rv n)) ++ [(e.1.dig.length,.slice (some ⟨G,0,none⟩) 0 0)]):=(by rcases hP5 with h|⟨j,v0,_,h,_⟩;exact h.2;rw [look_map,if_neg HNK.out] at h;cases h);have hMG : M < G:=(by have:=HG.out;have:=h3.tab.map.lt;omega);have hF35 : Fr [M] w3 w5:=Fr.trans (S:=[M]) (hF4.mono (by simp)) hF5 (fun k hk _=>hk);have h5:=h3.add HNK.out hF35 (own_fr (hO4 M (by omega)) hF5 (by simp [Value.ownBlock];omega)) (Nat.le_of_eq HG.out.symm) hM5;clear hP5 hM5;have hlk:=h5.tab.map.look (P:=Tryz.prog) (T:=448) (K:=3) (E:=449) (by kernel_rfl) (by kernel_rfl) drs_zero e.1.dig.length false;rw [look_map] at hlk;simp only [if_pos (show e.1.dig.length ∈ ks ++ [e.1.dig.length] by simp),Bool.false_eq_true,if_false,Option.getD_some,upd_same] at hlk;have hTl:=hT3.lt;have hpl:=hD.lt;have tc5:=(hF35.blk hT3 (by simp;omega)).cells;have dc5:=(hF35.blk hD (by simp;omega)).cells;clear tc3 dc3;have hO5 : w5.ownsRow M 452 2 (.slice (some ⟨G,0,none⟩) 0 0) 0 []:=own_fr (hO4 M (by omega)) hF5 (by simp [Value.ownBlock];omega))|((with_reducible refine op_bi .append ?_);  refine appOwnX _ _ 449 rfl M 452 (.agg #[.slice none 0 0,.int .u64 0]) 2 32 dr_slice dr_info rfl (by omega) (.slice (some ⟨G,0,none⟩) 0 0) 0 [] rfl (own_fr (S:=[]) hO5 (by exact frP) (by simp)) _ 1 _ [.slice (some ⟨bh,od,none⟩) e.1.dig.length cd,.int .u64 e.2] rfl (by omega) rfl (newTwo (by simp)) (by intro u hu;simp at hu;rcases hu with rfl|rfl <;> rfl) (by omega) (by omega) (by have:=hF35.size;simp;omega) (fun v6 w6 hO6 hF6 hw6 hs6=>?_);obtain ⟨g6,c6,rfl⟩:=hs6;have hF56 : Fr [G] w5 w6:=Fr.trans (S:=[G]) (by exact frP) hF6 (by simp [Value.ownBlock]);have hM6:=h5.tab.map.fr hF56 (by simp;omega);have hg6 : g6 = G ∨ w5.heap.size ≤ g6:=(by rcases hw6 with h|h <;> simp [Value.ownBlock] at h <;> omega);clear hF6 hlk hw6)|((with_reducible refine op_mapUpdate ?_);  refine putStep _ _ _ 448 rfl (b:=M) (n:=e.1.dig.length) (q:=.i64) (x:=.slice (some ⟨g6,0,none⟩) (0 + 1) c6) rfl rfl rfl hM6 (Kt:=3) (E:=449) (by kernel_rfl) (by kernel_rfl) (fun w7 hF7 hP7=>?_))))|(refine wEA rfl (fun K hK=>?_);go_simp))))
        go_roundg d2.length
        case measure=>have:=HR.out.2.1;simp at this;omega
        case rel =>
          obtain ⟨hL,hk,hge,hem,hok1,hIr⟩:=HR.out
          have hFw : Fr [] w w7:=(((hFr.trans hF03 (by simp)).trans hF35 (by intro k hk hl;simp at hk;have:=HM.out;omega)).trans hF56 (by intro k hk hl;simp at hk;have:=HM.out;omega)).trans hF7 (by intro k hk hl;simp at hk;have:=HM.out;omega)
          have hfr:=(hfs bh (by simp at hbh;omega)).add (n:=e.1.dig.length) (n':=0) (c:=0) (g:=G) (by have:=hBd.lt;have:=HG.out;omega)
          have h7:=h5.step (n:=e.1.dig.length) (g:=G) (c:=0) (g6:=g6) (c6:=c6) (bh:=bh) (od:=od) (cd:=cd) (e:=e) (.inr rfl) rfl (by simp) (by simp [upd_same]) hfr (hBd.fr hF35 (by simp;exact hfr.2.1)) hF56 (by simpa [upd_same,encs] using hO6) hg6 hF7 (by simpa [upd_same] using hP7)
          exact ⟨d1 ++ [e],d2,_,_,_,by rw [hL];simp,rfl,by rw [wrap64_in (by omega) (by have:=HN.out;have:=congrArg List.length hL;simp at this;omega)];simp,h7,hFw⟩
end Go.Proofs.Wx
