import Derived.Test.YtdokbceiganhdaaGreatDoorM8
import Derived.Test.YtdokbceiganhdaaGreatDoorM13
import Derived.Test.YtdokbceiganhdaaGreatDoorM37
import Derived.Test.YtdokbceiganhdaaGreatDoorM41
import Derived.Test.YtdokbceiganhdaaGreatDoorM42
set_option maxRecDepth 100000
set_option maxHeartbeats 1000000
set_option linter.unusedVariables false
set_option linter.unusedSimpArgs false
set_option linter.deprecated false
set_option linter.all false
set_option linter.unusedSectionVars false
namespace Go.Proofs.Wx
open Go Go.RowKit
abbrev oSp50 : List (Nat × Cls):=[(0,.free),(1,.free),(2,.look),(3,.free),(4,.free),(5,.free),(6,.look),(7,.free),(8,.free),(9,.make),(10,.act),(11,.free)]
abbrev tEN : TypeId:=56
def enL (x : Itm) : List Value:=[.int .u64 x.1.v,.int .u64 x.1.codec,.int .u64 x.1.code,.string ⟨x.1.dig.toArray⟩,.int .u64 x.2]
def enC (l : List Itm) : List Value:=l.flatMap enL
theorem enC_append (a b : List Itm) : enC (a ++ b) = enC a ++ enC b:=by simp [enC]
theorem enC_length (l : List Itm) : (enC l).length = l.length * 5:=by
  induction l with
  | nil=>rfl
  | cons x l ih=>simp [enC,enL] at *;omega
theorem enC_get : ∀ {l : List Itm} {i : Nat} {x : Itm},l[i]? = some x → ∀ j u,(enL x)[j]? = some u → (enC l)[i * 5 + j]? = some u
  | y :: l,0,x,h,j,u,hu=>by
    simp at h;subst h
    have hj : j < 5:=by have:=(List.getElem?_eq_some_iff.1 hu).1;simpa [enL] using this
    have e : enC (y :: l) = enL y ++ enC l:=by simp [enC]
    rw [e,List.getElem?_append_left (by simp [enL];omega)]
    simpa using hu
  | y :: l,i + 1,x,h,j,u,hu=>by
    have:=enC_get (l:=l) (i:=i) (x:=x) (by simpa using h) j u hu
    have e : enC (y :: l) = enL y ++ enC l:=by simp [enC]
    rw [e,List.getElem?_append_right (by simp [enL];omega)]
    rw [show (i + 1) * 5 + j - (enL y).length = i * 5 + j by simp [enL];omega]
    exact this
/-- Entries in a row of a slice. -/
def EntsAt (w : World) (v : Value) (l : List Itm) : Prop:=(l = [] ∧ ∃ a c,v = .slice a 0 c) ∨ ∃ g c rest,v = .slice (some ⟨g,0,none⟩) l.length c ∧ l.length ≤ c ∧ Blk w g (enC l ++ rest) tEN (0,0)
theorem EntsAt.fr {w w' : World} {v : Value} {l : List Itm} {S : List Nat} (h : EntsAt w v l) (hf : Fr S w w') (hS : ∀ g a n c,v = .slice (some a) n c → a.block = g → g ∉ S) : EntsAt w' v l:=by
  rcases h with h|⟨g,c,rest,h1,h3,h2⟩
  · exact .inl h
  · exact .inr ⟨g,c,rest,h1,h3,hf.blk h2 (hS g _ _ _ h1 rfl)⟩
theorem EntsAt.cells {w : World} {g n c : Nat} {l : List Itm} {i : Nat} {x : Itm} (h : EntsAt w (.slice (some ⟨g,0,none⟩) n c) l) (hx : l[i]? = some x) :
    w.cell? ⟨g,i * 5,none⟩ = some (.int .u64 x.1.v) ∧ w.cell? ⟨g,i * 5 + 1,none⟩ = some (.int .u64 x.1.codec) ∧ w.cell? ⟨g,i * 5 + 2,none⟩ = some (.int .u64 x.1.code) ∧ w.cell? ⟨g,i * 5 + 3,none⟩ = some (.string ⟨x.1.dig.toArray⟩) ∧ w.cell? ⟨g,i * 5 + 4,none⟩ = some (.int .u64 x.2):=by
  rcases h with ⟨rfl,_⟩|⟨g',c',rest,h1,_,h2⟩
  · simp at hx
  · cases h1
    have hl : i < l.length:=(List.getElem?_eq_some_iff.1 hx).1
    have key : ∀ j u,(enL x)[j]? = some u → w.cell? ⟨g,i * 5 + j,none⟩ = some u:=fun j u hu=>by
      have hj : j < 5:=by have:=(List.getElem?_eq_some_iff.1 hu).1;simpa [enL] using this
      rw [h2.cell,List.getElem?_append_left (by rw [enC_length];omega)]
      exact enC_get hx j u hu
    exact ⟨key 0 _ rfl,key 1 _ rfl,key 2 _ rfl,key 3 _ rfl,key 4 _ rfl⟩
theorem en_slice : Tryz.prog.underlying 28 = some (.slice 56):=by kernel_rfl
theorem en_info : (Tryz.prog.info? 56).map (fun i=>(i.zero,i.size,i.bytes)) = some (some (.agg #[.int .u64 0,.int .u64 0,.int .u64 0,.string ⟨#[]⟩,.int .u64 0]),5,48):=by kernel_rfl
theorem newL {W : World} {n : Nat} {t : TypeId} {cs : List Value} (e : n = W.heap.size) : ∀ j x,cs[j]? = some x → (W.alloc (.cells cs.toArray t)).cell? ((⟨n,0,none⟩ : Addr).add j) = some x:=by
  intro j x hx
  rw [Addr.add_lit,Nat.zero_add,Blk.cell (Blk.newAt e)];exact hx
theorem newLd {W : World} {n : Nat} {t : TypeId} {cs : List Value} (e : n = W.heap.size) : ∀ j x,cs[j]? = some x → (W.alloc (.cells cs.toArray t)).drew.cell? ((⟨n,0,none⟩ : Addr).add j) = some x:=newL e
theorem one5 {a b c d : Int} {s : ByteArray} : ∀ u ∈ [Value.int .u64 a,.int .u64 b,.int .u64 c,.string s,.int .u64 d],u.oneCell' = true:=by
  intro u hu;simp at hu;rcases hu with rfl|rfl|rfl|rfl|rfl <;> rfl
theorem entsAt_snoc2 : ∀ (p : Nat) (l : List BlkM) (b : BlkM),entsAt p (l ++ [b]) = entsAt p l ++ (if b.cid.code = 0 then [] else [(b.cid,p + (secsB l).length)])
  | p,[],b=>by simp [entsAt,secsB]
  | p,x :: l,b=>by
    rw [List.cons_append,entsAt,entsAt,entsAt_snoc2,List.append_assoc]
    congr 2
    rw [show p + (secB x).length + (secsB l).length = p + (secsB (x :: l)).length by simp [secsB];omega]
def genRel (w : World) (base : Nat) (c : CarM) (k : Nat) (s5 s14 : Value) (wr : World) : Prop :=
  ∃ i,s14 = .int .i64 (i : Nat) ∧ i + k = c.blocks.length ∧ wr.ownsRow base tEN 5 s5 (entsAt (headerB c.roots).length (c.blocks.take i)).length (enC (entsAt (headerB c.roots).length (c.blocks.take i))) ∧ Fr [] w wr
theorem own_ents {base : Nat} {w : World} {v : Value} {l : List Itm} (h : w.ownsRow base tEN 5 v l.length (enC l)) : EntsAt w v l:=by
  rcases h.2 with ⟨rfl,h0⟩|⟨g,cap,cur,rfl,hb,hg,hnc,_,_,ht⟩
  · exact .inl ⟨List.eq_nil_of_length_eq_zero h0,none,0,rfl⟩
  · refine .inr ⟨g,cap,cur.toList.drop (l.length * 5),rfl,hnc,?_⟩
    have : Blk w g cur.toList tEN (0,0):=hg
    exact this.conv (by rw [← ht,List.take_append_drop])
set_option maxRecDepth 1000000 in
set_option maxHeartbeats 12800000 in
theorem spGenerated {w : World} {ra ba : Option Addr} {rc bc : Nat} {c : CarM} (h : CarAt w ra ba c) (hok : c.Ok) :
    Calls Tryz.prog 6 #[carA ra ba rc bc c,.bool false] w fun e w'=>∃ v,e = .returned v ∧ EntsAt w' v c.ents ∧ Fr [] w w':=by
  have hpl:=fun (w' : World) (he : w.Ext w')=>spPlaces (rc:=rc) (bc:=bc) (h.ext he) hok
  have HL:=Lib.hid (And.intro hok h)
  clear hok h
  unfold carA at *
  have hen : c.ents = entsAt (headerB c.roots).length c.blocks:=rfl
  rw [hen]
  clear hen
  obtain ⟨N,hN⟩ : ∃ N,N = c.blocks.length:=⟨_,rfl⟩
  go_enter Tryz.func6,Tryz.ntmps6
  go_wp2_with (first
    | go_at_call 20;refine (hpl _ (World.Ext.alloc _ _)).mono ?_;rintro e w1 ⟨g,cp,rfl,hg1,hg2,hP,hF1⟩;clear hpl;have hT:=hF1.blk (b:=w.heap.size) (Blk.newAt rfl) (by simp);have tc:=hT.cells;have hF01 : Fr [] w w1:=Fr.trans (S:=[]) (by exact frP) hF1 (by simp);clear hF1
    | (refine wre 7 oSp50 ?_)
    | (with_reducible refine wEI ?_;(first|(refine wEN ?_;skip)|(refine wEF rfl (fun K hK=>?_);go_simp)|(refine wEL rfl rfl (fun K hK=>?_);go_simp)|(refine wER rfl (fun K hK=>?_);go_simp)|(refine wEM rfl (fun K hK=>?_);go_simp;try refine ⟨_,_,⟨rfl,rfl⟩,?_⟩)|(refine wEG rfl (fun K hK=>?_);go_simp)|(refine wEA rfl (fun K hK=>?_);go_simp))))
  clear tc hT
  go_loopg [5,14] c.blocks.length (fun k s5 s14 wr=>genRel w1 w1.heap.size c k s5 s14 wr)
  case atStart=>exact ⟨0,rfl,by omega,⟨by simp [entsAt,enC],.inl ⟨rfl,by simp [entsAt]⟩⟩,Fr.refl⟩
  case round =>
    obtain ⟨i,rfl,hik,hO,hFr⟩:=hrel
    have hFw:=hF01.trans hFr (by simp)
    by_cases hi : i < c.blocks.length
    · have hz : (i : Int) < (c.blocks.length : Int):=by omega
      have hi50 : i < 50:=by have:=HL.out.1.blocks;omega
      obtain ⟨x,hx⟩ : ∃ x,x = c.blocks[i]:=⟨_,rfl⟩
      have hgc : c.blocks[i]? = some x:=by rw [hx];simp [hi]
      obtain ⟨b,o,rfl,x1,x2,x3,x4,x5⟩:=(HL.out.2.blocks.ext (Fr.ext hFw)) _ _ hgc
      have htk : c.blocks.take (i + 1) = c.blocks.take i ++ [x]:=by rw [List.take_succ,hgc];rfl
      have hsn:=entsAt_snoc2 (headerB c.roots).length (c.blocks.take i) x
      have hel : (entsAt (headerB c.roots).length (c.blocks.take i)).length ≤ 50:=Nat.le_trans (entsAt_length _ _) (by simp;omega)
      have hp:=hP i (by omega)
      rw [← World.cell?_of_block (w:=w1) (w':=wr) (hFr.block g hg2 (by simp))] at hp
      have hgr : g < wr.heap.size:=Nat.lt_of_lt_of_le hg2 hFr.size
      obtain ⟨Q,hQ⟩ : ∃ Q,Hid (Q = (headerB c.roots).length + (secsB (c.blocks.take i)).length):=⟨_,rfl⟩
      rw [← hQ.out] at hp hsn
      have hQ2 : Q ≤ 1700000:=by
        have h1:=secsB_length (l:=c.blocks.take i) (fun x hx=>HL.out.1.cid x (List.mem_of_mem_take hx)) (fun x hx=>HL.out.1.data x (List.mem_of_mem_take hx))
        have h2 : 32992 * (c.blocks.take i).length ≤ 32992 * 50:=Nat.mul_le_mul (Nat.le_refl _) (by simp;omega)
        have h3:=headerB_length HL.out.1.roots HL.out.1.root
        rw [hQ.out];omega
      have wQ : IntKind.u64.wrap (Q : Int) = (Q : Int):=by simp [IntKind.wrap,IntKind.bits,IntKind.signed];omega
      have hn1 : (i : Int) < ((c.blocks.length : Int) + 1):=by omega
      have h1s:=hFr.size
      obtain ⟨L,hL⟩ : ∃ L,Hid (L = entsAt (headerB c.roots).length (c.blocks.take i)):=⟨_,rfl⟩
      rw [← hL.out] at hO hsn hel
      have HQ:=Lib.hid (And.intro hik (And.intro htk hsn))
      clear hik hgc htk hsn hx hP
      by_cases h0 : x.cid.code = 0
      · have hcz : (x.cid.code : Int) = 0:=by omega
        have H0:=Lib.hid h0
        clear h0
        go_wp2_with (first
          | (refine wre 7 oSp50 ?_)
          | (with_reducible refine wEI ?_;(first|(refine wEN ?_;skip)|(refine wEF rfl (fun K hK=>?_);go_simp)|(refine wEL rfl rfl (fun K hK=>?_);go_simp)|(refine wER rfl (fun K hK=>?_);go_simp)|(refine wEM rfl (fun K hK=>?_);go_simp;try refine ⟨_,_,⟨rfl,rfl⟩,?_⟩)|(refine wEG rfl (fun K hK=>?_);go_simp)|(refine wEA rfl (fun K hK=>?_);go_simp))))
        go_roundg (c.blocks.length - (i + 1))
        case measure=>have:=HQ.out.1;omega
        case rel =>
          have hF1 : Fr [] wr _:=Fr.alloc (o:=.cells #[.int .u64 x.cid.v,.int .u64 x.cid.codec,.int .u64 x.cid.code,.string ⟨x.cid.dig.toArray⟩,.string ⟨x.data.toArray⟩] 52) Fr.refl
          refine ⟨i + 1,by first|(rw [wrap64_1 (by omega)];done)|(simp;done),by have:=HQ.out.1;omega,?_,?_⟩
          · rw [HQ.out.2.1,HQ.out.2.2,if_pos H0.out,List.append_nil]
            exact own_fr (S:=[]) hO (by exact frP) (by simp)
          · exact Fr.trans (S:=[]) (S':=[]) hFr (by exact frP) (by simp)
      · have hcz : ¬ (x.cid.code : Int) = 0:=by omega
        have H0:=Lib.hid h0
        clear h0
        go_wp2_with (first
          | ((with_reducible refine list_bi .append (fun K hK=>?_));  refine appOwn _ _ 28 rfl w1.heap.size 56 (.agg #[.int .u64 0,.int .u64 0,.int .u64 0,.string ⟨#[]⟩,.int .u64 0]) 5 48 en_slice en_info rfl (by omega) _ L.length (enC L) rfl (own_fr (S:=[]) hO (by exact frP) (by simp)) _ 1 _ [.int .u64 x.cid.v,.int .u64 x.cid.codec,.int .u64 x.cid.code,.string ⟨x.cid.dig.toArray⟩,.int .u64 Q] rfl rfl (newLd (cs:=[.int .u64 x.cid.v,.int .u64 x.cid.codec,.int .u64 x.cid.code,.string ⟨x.cid.dig.toArray⟩,.int .u64 Q]) (by simp)) one5 (by omega) (by omega) (by simp;omega) (fun v5 w5 hO5 hF5=>?_))
          | (refine wre 7 oSp50 ?_)
          | (with_reducible refine wEI ?_;(first|(refine wEN ?_;skip)|(refine wEF rfl (fun K hK=>?_);go_simp)|(refine wEL rfl rfl (fun K hK=>?_);go_simp)|(refine wER rfl (fun K hK=>?_);go_simp)|(refine wEM rfl (fun K hK=>?_);go_simp;try refine ⟨_,_,⟨rfl,rfl⟩,?_⟩)|(refine wEG rfl (fun K hK=>?_);go_simp)|(refine wpE_actp rfl rfl (fun K hK=>?_);simp only [List.getElem_toArray,List.getElem_cons_succ,List.getElem_cons_zero];(first|((with_reducible refine op_bi .append ?_);  refine appOwn _ _ 28 rfl w1.heap.size 56 (.agg #[.int .u64 0,.int .u64 0,.int .u64 0,.string ⟨#[]⟩,.int .u64 0]) 5 48 en_slice en_info rfl (by omega) _ L.length (enC L) rfl (own_fr (S:=[]) hO (by exact frP) (by simp)) _ 1 _ [.int .u64 x.cid.v,.int .u64 x.cid.codec,.int .u64 x.cid.code,.string ⟨x.cid.dig.toArray⟩,.int .u64 Q] rfl rfl (newLd (cs:=[.int .u64 x.cid.v,.int .u64 x.cid.codec,.int .u64 x.cid.code,.string ⟨x.cid.dig.toArray⟩,.int .u64 Q]) (by simp)) one5 (by omega) (by omega) (by simp;omega) (fun v5 w5 hO5 hF5=>?_))))|(refine wEA rfl (fun K hK=>?_);go_simp))))
        go_roundg (c.blocks.length - (i + 1))
        case measure=>have:=HQ.out.1;omega
        case rel =>
          refine ⟨i + 1,by first|(rw [wrap64_1 (by omega)];done)|(simp;done),by have:=HQ.out.1;omega,?_,?_⟩
          · rw [HQ.out.2.1,HQ.out.2.2,if_neg H0.out,enC_append,List.length_append]
            exact hO5
          · refine hFr.trans (Fr.trans (w:=wr) (by exact frP) hF5 (fun k hk _=>hk)) ?_
            intro k hk hl
            have:=own_ge hO k hk
            omega
    · have hz : ¬ (i : Int) < (c.blocks.length : Int):=by omega
      have hie : i = c.blocks.length:=by omega
      have HI:=Lib.hid hie
      clear hie hik
      go_wp2
      go_ret
      have:=own_ents hO
      rw [HI.out,List.take_length] at this
      exact ⟨_,rfl,this,hFw⟩
def Apart1 (x y : Itm) : Prop:=¬ (x.1.code = y.1.code ∧ x.1.dig = y.1.dig)
def on1Rel (w : World) (l : List Itm) (k : Nat) (s : Value) (wr : World) : Prop :=
  ∃ i,s = .int .i64 (i : Nat) ∧ i + k = l.length ∧ OnceC (l.take i) ∧ Fr [] w wr
def on2Rel (w : World) (l : List Itm) (x : Itm) (n k : Nat) (s : Value) (wr : World) : Prop :=
  ∃ j,s = .int .i64 (j : Nat) ∧ j + k = n ∧ (∀ y ∈ l.take j,Apart1 y x) ∧ Fr [] w wr
set_option maxRecDepth 1000000 in
set_option maxHeartbeats 12800000 in
theorem spOnce {w : World} {v : Value} {l : List Itm} (h : EntsAt w v l) (hl : l.length ≤ 50) : Calls Tryz.prog 7 #[v,.int .u64 1025] w fun e w'=>IsB (fun b=>b = true → OnceC l) e ∧ Fr [] w w':=by
  obtain ⟨ad,c,rfl,hv⟩ : ∃ ad c,v = .slice ad l.length c ∧ (l ≠ [] → ∃ g,ad = some ⟨g,0,none⟩ ∧ g < w.heap.size ∧ l.length ≤ c):=by
    rcases h with ⟨rfl,a,c,rfl⟩|⟨g,c,rest,h1,h3,h2⟩
    · exact ⟨a,c,rfl,fun h=>absurd rfl h⟩
    · exact ⟨_,c,h1,fun _=>⟨g,rfl,h2.lt,h3⟩⟩
  have HE:=Lib.hid (And.intro h hl)
  have hlz : (l.length : Int) ≤ 50:=by omega
  clear h hl
  go_enter Tryz.func7,Tryz.ntmps7
  go_wp2
  go_loopg [11] l.length (fun k s wr=>on1Rel w l k s wr)
  case atStart=>exact ⟨0,rfl,by omega,by simp [OnceC],Fr.refl⟩
  case round =>
    obtain ⟨i,rfl,hik,hon,hFr⟩:=hrel
    by_cases hi : i < l.length
    · have hz : (i : Int) < (l.length : Int):=by omega
      obtain ⟨g,rfl,hgl,hlc⟩:=hv (by intro e;rw [e] at hi;simp at hi)
      obtain ⟨x,hx⟩ : ∃ x,x = l[i]:=⟨_,rfl⟩
      have hgc : l[i]? = some x:=by rw [hx];simp [hi]
      have hEr:=HE.out.1.fr hFr (by simp)
      obtain ⟨x1,x2,x3,x4,x5⟩:=hEr.cells hgc
      have hi2 : (i : Int) ≤ (c : Int):=by omega
      have HQ:=Lib.hid (And.intro hik (And.intro hgc hon))
      clear hik hgc hon hx hi
      go_wp2
      have hT0 : Blk (wr.alloc (.cells (enL x).toArray tEN)) wr.heap.size (enL x) tEN (0,0):=Blk.newAt rfl
      have hF0 : Fr [] wr (wr.alloc (.cells (enL x).toArray tEN)):=Fr.alloc Fr.refl
      unfold enL at hT0 hF0
      generalize wr.alloc _ = w2 at *
      generalize wr.heap.size = T at *
      have hF02:=hFr.trans hF0 (by simp)
      clear hEr x1 x2 x3 x4 x5 hFr hF0
      go_loopg [20] i (fun k s w3=>on2Rel w2 l x i k s w3)
      case atStart=>exact ⟨0,rfl,by omega,by simp,Fr.refl⟩
      case round =>
        rename World=>w3
        obtain ⟨j,rfl,hjk,hap,hF3⟩:=hrel
        have hT3:=hF3.blk hT0 (by simp)
        have tc:=hT3.cells
        have hFx:=hF02.trans hF3 (by simp)
        clear hT0
        by_cases hj : j < i
        · have hz2 : (j : Int) < (i : Int):=by omega
          have hjl : j < l.length:=by omega
          obtain ⟨y,hy⟩ : ∃ y,y = l[j]:=⟨_,rfl⟩
          have hgj : l[j]? = some y:=by rw [hy];simp [hjl]
          obtain ⟨y1,y2,y3,y4,y5⟩:=(HE.out.1.fr hFx (by simp)).cells hgj
          have HJ:=Lib.hid (And.intro hjk (And.intro hgj hap))
          clear hjk hgj hap hy
          have hTl:=hT3.lt
          by_cases hd : x.1.dig = y.1.dig
          · have hdn : x.1.dig.toArray = y.1.dig.toArray:=by rw [hd]
            by_cases hc : x.1.code = y.1.code
            · have hcz : (x.1.code : Int) = (y.1.code : Int):=by omega
              have Hd:=Lib.hid hd
              clear hd hc
              go_wp2
              go_ret
              exact ⟨⟨_,rfl,by intro h;cases h⟩,Fr.trans (S:=[]) (S':=[]) hFx (by exact frP) (by simp)⟩
            · have hcz : ¬ (x.1.code : Int) = (y.1.code : Int):=by omega
              have Hc:=Lib.hid hc
              clear hd hc
              go_wp2
              go_roundg (i - (j + 1))
              case measure=>have:=HJ.out.1;omega
              case rel =>
                refine ⟨j + 1,by first|(rw [wrap64_1 (by have:=HE.out.2;omega)];done)|(simp;done),by have:=HJ.out.1;omega,?_,Fr.trans (S:=[]) (S':=[]) hF3 (by exact frP) (by simp)⟩
                obtain ⟨_,hgj,hap⟩:=HJ.out
                rw [List.take_succ,hgj]
                intro z hz
                rcases List.mem_append.1 hz with hz|hz
                · exact hap z hz
                · simp at hz;subst hz;exact fun e=>Hc.out e.1.symm
          · have hdn : ¬ x.1.dig.toArray = y.1.dig.toArray:=fun e=>hd (by simpa using e)
            have Hd:=Lib.hid hd
            clear hd
            go_wp2
            go_roundg (i - (j + 1))
            case measure=>have:=HJ.out.1;omega
            case rel =>
              refine ⟨j + 1,by first|(rw [wrap64_1 (by have:=HE.out.2;omega)];done)|(simp;done),by have:=HJ.out.1;omega,?_,Fr.trans (S:=[]) (S':=[]) hF3 (by exact frP) (by simp)⟩
              obtain ⟨_,hgj,hap⟩:=HJ.out
              rw [List.take_succ,hgj]
              intro z hz
              rcases List.mem_append.1 hz with hz|hz
              · exact hap z hz
              · simp at hz;subst hz;exact fun e=>Hd.out e.2.symm
        · have hz2 : ¬ (j : Int) < (i : Int):=by omega
          have hji : j = i:=by omega
          have HJ:=Lib.hid (And.intro hji hap)
          clear hji hap hjk
          go_wp2
          go_roundg (l.length - (i + 1))
          case measure=>have:=HQ.out.1;omega
          case rel =>
            refine ⟨i + 1,by first|(rw [wrap64_1 (by omega)];done)|(simp;done),by have:=HQ.out.1;omega,?_,hFx⟩
            obtain ⟨hik,hgc,hon⟩:=HQ.out
            rw [List.take_succ,hgc]
            unfold OnceC at *
            rw [List.pairwise_append]
            refine ⟨hon,by simp,fun y hy z hz=>?_⟩
            simp at hz
            subst hz
            have:=HJ.out.2 y (by rw [HJ.out.1];exact hy)
            exact this
    · have hz : ¬ (i : Int) < (l.length : Int):=by omega
      have hie : i = l.length:=by omega
      have HI:=Lib.hid (And.intro hie hon)
      clear hie hik hon
      go_wp2
      go_ret
      refine ⟨⟨_,rfl,fun _=>?_⟩,hFr⟩
      have:=HI.out.2
      rw [HI.out.1,List.take_length] at this
      exact this
end Go.Proofs.Wx

namespace Go.Proofs.Wx
open Go Go.RowKit
theorem newOff {w : World} {p off : Nat} : Calls Tryz.prog 109 #[MEMI p,.int .i64 off] w fun e w'=>∃ o,e = .returned (.pointer (some ⟨o,0,none⟩)) ∧ w.heap.size ≤ o ∧ Blk w' o [MEMI p,.int .i64 off,.int .i64 off] 280 (0,0) ∧ Fr [] w w':=by
  go_enter Tryz.func109,Tryz.ntmps109
  go_wp2
  go_ret
  exact ⟨_,rfl,Nat.le_refl _,Blk.new,by exact frP⟩
set_option maxRecDepth 1000000 in
set_option maxHeartbeats 12800000 in
theorem attachIndexK {w : World} {p base off k : Nat} {D : Nat → Prop} {l : List Itm} {iv v : Value} {zs : List UInt8} (hI : IdxAt k w iv D l) (hP : Blk w p [v,.int .i64 0] tMem (0,0)) (hV : OwnF base w v zs) (hvp : v.ownBlock ≠ some p) (hz : zs.length ≤ off) (hoff : off ≤ 2000000) (hl : l.length ≤ 50) (hd : ∀ e ∈ l,e.1.dig.length ≤ 200) (hc : ∀ e ∈ l,e.1.code < 9223372036854775808)
    (hbase : base ≤ w.heap.size) (hpD : ¬ D p) (hvD : ∀ k,v.ownBlock = some k → ¬ D k) (hhi : ∀ b,D b → b < w.heap.size) (hLen : LenC) :
    Calls Tryz.prog 66 #[MEMI p,iv,.int .u64 off] w fun e w'=>e = .returned .nilIface ∧ ∃ v',Blk w' p [v',.int .i64 0] tMem (0,0) ∧ OwnF base w' v' (owC zs off (Lib.uvarint k ++ bodyB k l)) ∧ Fr (p :: v.ownBlock.toList) w w':=by
  have hpl:=hP.lt
  have hvl : ∀ k,v.ownBlock = some k → k < w.heap.size:=fun k hk=>by obtain ⟨g,c,e,h1,h2,_⟩:=hV.form;rw [e] at hk;cases hk;exact h2
  have hoz : (off : Int) ≤ 2000000:=by omega
  have hwr:=fun (w1 : World) (o : Nat) (hF : Fr [] w w1) (ho : w.heap.size ≤ o) (hO : Blk w1 o [MEMI p,.int .i64 off,.int .i64 off] 280 (0,0))=>idxWriteS (owSnk (o:=o) (m:=p) (base:=base) hz hoff (by omega)) (v:=v) (ys:=[])
    ⟨hO.conv rfl,hF.blk hP (by simp),by simpa [owC] using hV.fr hF (by simp),hvp,fun e=>by have:=hvl _ e;omega⟩ (hI.fr hF (by simp)) hl hd hc (by simp) (Nat.le_trans hbase hF.size)
    (by intro k hk;simp at hk;rcases hk with rfl|rfl;exact (fun hm=>by have:=hhi _ hm;omega);exact hpD) hvD (fun b hb=>Nat.lt_of_lt_of_le (hhi b hb) hF.size) hLen
  obtain ⟨ys,hys⟩ : ∃ ys,Hid (ys = Lib.uvarint k ++ bodyB k l):=⟨_,rfl⟩
  simp only [List.nil_append,← hys.out] at hwr
  rw [← hys.out]
  have wO : IntKind.i64.wrap (off : Int) = (off : Int):=by simp [IntKind.wrap,IntKind.bits,IntKind.signed];omega
  clear hI hP hV hvp hz hl hd hc
  go_enter Tryz.func66,Tryz.ntmps66
  go_wp2_with (first
    | go_at_call 109;refine newOff.mono ?_;rintro e w1 ⟨o,rfl,ho,hO1,hF1⟩
    | go_at_call 64;refine (hwr _ o hF1 ho hO1).mono ?_;rintro e w2 ⟨⟨N,rfl⟩,v2,hW2⟩)
  go_ret
  obtain ⟨_,hM,hV2,hv2,_⟩:=hW2.buf
  refine ⟨rfl,v2,hM,hV2,Fr.trans (S:=p :: v.ownBlock.toList) (S':=[o,p] ++ v.ownBlock.toList) (hF1.mono (by simp)) hW2.fr (fun k hk hl=>?_)⟩
  simp at hk ⊢
  rcases hk with rfl|rfl|hk
  · omega
  · simp
  · simp [hk]
def attRel (w : World) (base : Nat) (l : List Itm) (k : Nat) (s12 s31 : Value) (wr : World) : Prop :=
  ∃ i,s31 = .int .i64 (i : Nat) ∧ i + k = l.length ∧ wr.ownsRow base 120 2 s12 (l.take i).length (recC (l.take i)) ∧ Fr [] w wr
set_option maxRecDepth 1000000 in
set_option maxHeartbeats 12800000 in
theorem attachK {w : World} {k off : Nat} {l : List Itm} {ev : Value} {zs : List UInt8} (hk2 : k = 1024 ∨ k = 1025) (hE : EntsAt w ev l) (hok : ∀ e ∈ l,e.1.Ok ∧ e.2 < 9223372036854775808) (hl : l.length ≤ 50) (hon : OnceK k l) (hz : zs.length ≤ off) (hoff : off ≤ 2000000) (hz0 : zs.length ≤ 1000000000) (hLen : LenC) :
    Calls Tryz.prog 36 #[.string ⟨zs.toArray⟩,ev,.int .u64 k,.int .u64 off] w fun e w'=>e = .returned (.tuple #[.string ⟨(owC zs off (Lib.uvarint k ++ bodyB k l)).toArray⟩,.bool true]) ∧ Fr [] w w':=by
  obtain ⟨ad,c,rfl,hv⟩ : ∃ ad c,ev = .slice ad l.length c ∧ (l ≠ [] → ∃ g,ad = some ⟨g,0,none⟩ ∧ g < w.heap.size ∧ l.length ≤ c):=by
    rcases hE with ⟨rfl,a,c,rfl⟩|⟨g,c,rest,h1,h3,h2⟩
    · exact ⟨a,c,rfl,fun h=>absurd rfl h⟩
    · exact ⟨_,c,h1,fun _=>⟨g,rfl,h2.lt,h3⟩⟩
  have hnw:=indexNewK hk2
  have hla:=fun (ix : Nat)=>loadF_ahead (ix:=ix) hk2
  have hlm:=fun (ix : Nat)=>loadF_meth (ix:=ix) hk2
  have hle:=fun (ix : Nat)=>loadF_enter (ix:=ix) hk2
  have HE:=Lib.hid (And.intro hE (And.intro hl (And.intro hok (And.intro hon (And.intro hz (And.intro hoff hz0))))))
  have hlz : (l.length : Int) ≤ 50:=by omega
  have hoz : ¬ (off : Int) > 16777216:=by omega
  have hoz2 : ¬ (16777216 : Int) < (off : Int):=by omega
  obtain ⟨ys,hys⟩ : ∃ ys,Hid (ys = owC zs off (Lib.uvarint k ++ bodyB k l)):=⟨_,rfl⟩
  rw [← hys.out]
  clear hE hl hok hon hz hoff hz0
  go_enter Tryz.func36,Tryz.ntmps36
  go_wp2_with (first
    | go_at_call 50;refine (hnw _).mono ?_;rintro e w1 ⟨iv,ix,bm,rfl,hI1,hi1,hi2,hi3,hi4,hi5,hF1⟩;clear hnw;have hivE:=hI1.iface;subst hivE;have H1:=Lib.hid (And.intro hI1 hF1);clear hI1 hF1)
  go_loopg [12,31] l.length (fun k s12 s31 wr=>attRel w1 w1.heap.size l k s12 s31 wr)
  case atStart=>exact ⟨0,rfl,by omega,⟨by simp [recC],.inl ⟨rfl,rfl⟩⟩,Fr.refl⟩
  case round =>
    obtain ⟨i,rfl,hik,hO,hFr⟩:=hrel
    have hFx:=H1.out.2.trans hFr (by simp)
    have hsr:=hFr.size
    by_cases hi : i < l.length
    · have hzi : (i : Int) < (l.length : Int):=by omega
      obtain ⟨g,rfl,hgl,hlc⟩:=hv (by intro e;rw [e] at hi;simp at hi)
      obtain ⟨x,hx⟩ : ∃ x,x = l[i]:=⟨_,rfl⟩
      have hgc : l[i]? = some x:=by rw [hx];simp [hi]
      obtain ⟨hxo,hx2⟩:=HE.out.2.2.1 x (List.mem_of_getElem? hgc)
      obtain ⟨x1,x2,x3,x4,x5⟩:=(HE.out.1.fr hFx (by simp)).cells hgc
      have hi2z : (i : Int) ≤ (c : Int):=by omega
      have htk : l.take (i + 1) = l.take i ++ [x]:=by rw [List.take_succ,hgc];rfl
      have hel : (l.take i).length ≤ 50:=by have:=HE.out.2.1;simp;omega
      have hci:=fun w=>cidInK (w:=w) hxo
      obtain ⟨n,hn⟩ : ∃ n,n = (l.take i).length:=⟨_,rfl⟩
      rw [← hn] at hO hel
      have HQ:=Lib.hid (And.intro hik (And.intro htk hn))
      clear hik hgc htk hx hi hn hxo
      unfold cidA at hci
      go_wp2_with (first
        | go_at_call 65;refine (hci _).mono ?_;rintro e w2 ⟨rfl,hF2⟩;have hT2 : Blk w2 wr.heap.size (enL x) tEN (0,0):=hF2.blk (Blk.newAt rfl) (by simp);unfold enL at hT2;have tc2:=hT2.cells;have hF02 : Fr [] wr w2:=Fr.trans (S:=[]) (by exact frP) hF2 (by simp);have hs2:=hF02.size;have hTl:=hT2.lt;clear hci x1 x2 x3 x4 x5
        | ((with_reducible refine list_bi .append (fun K hK=>?_));  refine appOwn _ _ 114 rfl w1.heap.size 120 (.agg #[.string ⟨#[]⟩,.int .u64 0]) 2 24 rec_slice rec_info rfl (by omega) _ n (recC (l.take i)) rfl (own_fr (S:=[]) hO (Fr.trans (S:=[]) (S':=[]) hF02 (by exact frP) (by simp)) (by simp)) _ 1 _ [.string ⟨x.1.bytes.toArray⟩,.int .u64 x.2] rfl rfl (newTwo (by simp)) (by intro u hu;simp at hu;rcases hu with rfl|rfl <;> rfl) (by omega) (by omega) (by simp;omega) (fun v5 w5 hO5 hF5=>?_)))
      go_roundg (l.length - (i + 1))
      case measure=>have:=HQ.out.1;omega
      case rel =>
        obtain ⟨hik,htk,hn⟩:=HQ.out
        refine ⟨i + 1,by first|(push_cast;rfl)|(rw [wrap64_1 (by omega)];done)|(simp;done),by omega,?_,?_⟩
        · rw [htk,recC_append,List.length_append,← hn]
          simpa [recC] using hO5
        · refine hFr.trans (Fr.trans (w:=wr) (S:=u12.ownBlock.toList) (Fr.trans (S:=u12.ownBlock.toList) (S':=[]) (hF02.mono (by simp)) (by exact frP) (by simp)) hF5 (fun k hk _=>hk)) ?_
          intro k hk hl
          have:=own_ge hO k hk
          omega
    · have hzi : ¬ (i : Int) < (l.length : Int):=by omega
      have hie : i = l.length:=by omega
      rw [hie,List.take_length] at hO
      have hld:=fun (w3 : World) (hF : Fr [] wr w3)=>loadK (base:=w1.heap.size) (H1.out.1.fr (hFr.trans hF (by simp)) (by simp) (by simp)) hi3 (own_fr (S:=[]) hO hF (by simp)) hi5 HE.out.2.2.1 HE.out.2.1 HE.out.2.2.2.1 hLen
      have hsr1:=hFr.size
      have HX:=Lib.hid hie
      clear hie hik hi
      go_wp2_with (first
        | ((with_reducible refine list_convert (fun K hK=>?_));  first|(refine strF _ rfl wr.heap.size (Nat.le_refl _) zs rfl HE.out.2.2.2.2.2.2 (fun v2 w2 hO2 hF2=>?_);obtain ⟨g,c2,e2,hg,hgl,hc2⟩:=hO2.form;subst e2;have hs2:=hF2.size;have hP3 : Blk (w2.alloc (.cells #[.slice (some ⟨g,0,none⟩) zs.length c2,.int .i64 0] tMem)) w2.heap.size [.slice (some ⟨g,0,none⟩) zs.length c2,.int .i64 0] tMem (0,0):=Blk.new (cs:=[_,_]);have hF3 : Fr [] wr (w2.alloc (.cells #[.slice (some ⟨g,0,none⟩) zs.length c2,.int .i64 0] tMem)):=Fr.alloc hF2;have hO3:=hO2.fr (S:=[]) (w':=w2.alloc (.cells #[.slice (some ⟨g,0,none⟩) zs.length c2,.int .i64 0] tMem)) (Fr.alloc Fr.refl) (by simp);have hl3:=hld _ hF3)|(refine strOf _ rfl hB5 rfl rfl ?_))
        | (with_reducible refine hl3.mono ?_);rintro e w4 ⟨rfl,hI4,hF4⟩;have hs4:=hF4.size;simp only [World.size_alloc] at hs4
        | go_at_call 66;refine (attachIndexK (p:=w2.heap.size) (base:=wr.heap.size) (off:=off) hI4 (hF4.blk hP3 (by simp;omega)) (hO3.fr hF4 (by simp;omega)) (by simp [Value.ownBlock];omega) HE.out.2.2.2.2.1 HE.out.2.2.2.2.2.1 HE.out.2.1 (fun e he=>(HE.out.2.2.1 e he).1.len) (fun e he=>(HE.out.2.2.1 e he).1.code_lt) (by omega) (by rintro (h|h);simp at h;omega;have:=h.1;simp at this;omega) (by intro k hk;simp [Value.ownBlock] at hk;subst hk;rintro (h|h);simp at h;omega;have:=h.1;simp at this;omega) (by rintro b (h|h);simp at h;omega;exact h.2) hLen).mono ?_;rintro e w5 ⟨rfl,v5,hP5,hO5,hF5⟩;obtain ⟨g5,c5,e5,_,hB5⟩:=hO5.bs;subst e5;have pc5:=hP5.cells)
      go_ret2
      refine ⟨by rw [hys.out];rfl,?_⟩
      have h0r:=H1.out.2.trans hFr (S:=[]) (by simp)
      have h03:=h0r.trans hF3 (S:=[]) (by simp)
      refine Fr.trans (S:=[]) (Fr.trans (S:=[]) h03 hF4 (by simp;omega)) hF5 (fun k hk hl=>?_)
      have:=h0r.size
      simp [Value.ownBlock] at hk
      omega
theorem wrAttachK {w : World} {k off : Nat} {l : List Itm} {ev : Value} {zs : List UInt8} (hk2 : k = 1024 ∨ k = 1025) (hE : EntsAt w ev l) (hok : ∀ e ∈ l,e.1.Ok ∧ e.2 < 9223372036854775808) (hl : l.length ≤ 50) (hon : OnceK k l) (hz : zs.length ≤ off) (hoff : off ≤ 2000000) (hz0 : zs.length ≤ 1000000000) (hLen : LenC) :
    Calls Tryz.prog 13 #[.string ⟨zs.toArray⟩,ev,.int .u64 k,.int .u64 off] w fun e w'=>e = .returned (.tuple #[.string ⟨(owC zs off (Lib.uvarint k ++ bodyB k l)).toArray⟩,.bool true]) ∧ Fr [] w w':=by
  have hc:=attachK hk2 hE hok hl hon hz hoff hz0 hLen
  clear hE hok hl hon hz hoff hz0
  go_enter Tryz.func13,Tryz.ntmps13
  go_wp2_with (first
    | go_at_call 36;refine hc.mono ?_;rintro e w1 ⟨rfl,hF1⟩)
  go_ret2
  exact ⟨rfl,hF1⟩
end Go.Proofs.Wx

namespace Go.Proofs.Wx
open Go Go.RowKit
abbrev oMemC0 : List (Nat × Cls):=[(0,.free),(1,.free),(2,.free),(3,.free),(4,.free),(5,.free),(6,.free),(7,.act),(8,.free),(9,.free),(10,.free),(11,.free),(12,.free)]
abbrev oMemC1 : List (Nat × Cls):=[(0,.free),(1,.free),(2,.free),(3,.look),(4,.free),(5,.free)]
set_option maxRecDepth 1000000 in
set_option maxHeartbeats 12800000 in
theorem memWriteG {w : World} {p base b so sc n L : Nat} {v : Value} {zs xs : List UInt8} (hP : Blk w p [v,.int .i64 L] tMem (0,0)) (hO : OwnF base w v zs) (hL : zs.length = L) (hLb : L ≤ 16777216) (hvp : v.ownBlock ≠ some p) (hbase : base ≤ w.heap.size) (hX : Bs w b so xs) (hn : xs.length = n) (hn5 : n ≤ 1000000) (h0 : 0 < n) (hbp : b ≠ p) (hbv : v.ownBlock ≠ some b) :
    Calls Tryz.prog 273 #[.pointer (some ⟨p,0,none⟩),.slice (some ⟨b,so,none⟩) n sc] w fun e w' =>
      e = .returned (.tuple #[.int .i64 n,.nilIface]) ∧ ∃ v',Blk w' p [v',.int .i64 (L + n : Nat)] tMem (0,0) ∧ OwnF base w' v' (zs ++ xs) ∧ (v'.ownBlock = v.ownBlock ∨ ∃ k,v'.ownBlock = some k ∧ w.heap.size ≤ k) ∧ Fr (p :: v.ownBlock.toList) w w':=by
  have hc:=memWriteAtG (sc:=sc) (o:=L) hP hO hL (Nat.le_refl _) hLb hvp hbase hX hn (by omega) h0 hbp hbv
  rw [Nat.sub_self,List.replicate_zero,List.append_nil] at hc
  have hpc:=hP.cells
  have hnz : (n : Int) ≤ 1000000:=by omega
  have hLz : (L : Int) ≤ 16777216:=by omega
  clear hL
  go_enter Tryz.func273,Tryz.ntmps273
  go_wp2_with (first
    | go_at_call 275;refine hc.mono ?_;rintro e w1 ⟨rfl,v1,hP1,hO1,ho1,hF1⟩;clear hpc;have pc1:=hP1.cells;have pf1:=hP1.free)
  go_ret2
  refine ⟨rfl,v1,Blk.conv hP1.set (by simp),hO1.fr (S:=[p]) (Fr.setCell (by simp) Fr.refl) (by
    simp
    refine .inr ?_
    rcases ho1 with h|⟨k,h,h2⟩
    · rw [h];exact hvp
    · rw [h];intro e;cases e;have:=hP.lt;omega),ho1,Fr.setCell (by simp) hF1⟩
def cnRel (w : World) (r sb p base b n i : Nat) (v : Value) (xs : List UInt8) (k : Nat) (s10 : Value) (wr : World) : Prop :=
  ∃ j v1 cs,s10 = .int .i64 (j : Nat) ∧ j + k = n ∧ 0 < k ∧ Rdr wr r sb xs (i + j) ∧ Blk wr b cs 229 (0,0) ∧ cs.length = 512 ∧ Blk wr p [v1,.int .i64 (j : Nat)] tMem (0,0) ∧ OwnF base wr v1 ((xs.drop i).take j) ∧
    (v1.ownBlock = v.ownBlock ∨ ∃ k,v1.ownBlock = some k ∧ w.heap.size ≤ k ∧ k ≠ b) ∧ Fr (p :: r :: v.ownBlock.toList) w wr
set_option maxRecDepth 1000000 in
set_option maxHeartbeats 12800000 in
theorem zzCopyG {w : World} {r sb p base n i : Nat} {v : Value} {xs : List UInt8} (hR : Rdr w r sb xs i) (hP : Blk w p [v,.int .i64 0] tMem (0,0)) (hO : OwnF base w v []) (hvp : v.ownBlock ≠ some p) (hbase : base ≤ w.heap.size) (h0 : 0 < n) (hn : n ≤ 16000000) (hi : i + n ≤ xs.length)
    (hrp : r ≠ p) (hsp : sb ≠ p) (hvr : v.ownBlock ≠ some r) (hvs : v.ownBlock ≠ some sb) :
    Calls Tryz.prog 78 #[MEMI p,.iface 74 (.pointer (some ⟨r,0,none⟩)),.int .i64 n] w fun e w'=>e = .returned (.tuple #[.int .i64 n,.nilIface]) ∧
      ∃ v',Blk w' p [v',.int .i64 n] tMem (0,0) ∧ OwnF base w' v' ((xs.drop i).take n) ∧ Fr (p :: r :: v.ownBlock.toList) w w':=by
  have hRl:=hR.lt
  have hpl:=hP.lt
  obtain ⟨gv,cv,ev,hgv,hgl,_⟩:=hO.form
  have hvo : v.ownBlock = some gv:=by rw [ev];rfl
  obtain ⟨b,hb⟩ : ∃ b,b = w.heap.size:=⟨_,rfl⟩
  have hbr : b ≠ r:=by omega
  have hbs : b ≠ sb:=by omega
  have hbp : b ≠ p:=by omega
  have hbv : v.ownBlock ≠ some b:=fun e=>by rw [hvo] at e;cases e;omega
  have HB:=Lib.hid hb
  have H:=Lib.hid (And.intro hR (And.intro hP (And.intro hO (And.intro hbase (And.intro hi (And.intro hvr (And.intro hvs hn)))))))
  have hnz : (n : Int) ≤ 16000000:=by omega
  have h0z : (0 : Int) < (n : Int):=by omega
  have hnn : ¬ (n : Int) < 0:=by omega
  clear hb hbase hR hP hO hi ev hvo
  go_enter Tryz.func78,Tryz.ntmps78
  go_wp2_with (first
    | ((with_reducible refine list_alloc 229 (fun K hK=>?_));  refine alloc512K rfl b HB.out (fun w1 hb1 hF1=>?_))
    | (refine wre 10 oMemC0 ?_)
    | (refine wre 14 oMemC1 ?_)
    | (with_reducible refine wEI ?_;(first|(refine wEN ?_;skip)|(refine wEF rfl (fun K hK=>?_);go_simp)|(refine wEL rfl rfl (fun K hK=>?_);go_simp)|(refine wER rfl (fun K hK=>?_);go_simp)|(refine wEM rfl (fun K hK=>?_);go_simp;try refine ⟨_,_,⟨rfl,rfl⟩,?_⟩)|(refine wpE_growp rfl rfl (fun K hK=>?_);simp only [List.getElem_toArray,List.getElem_cons_succ,List.getElem_cons_zero];(first|((with_reducible refine op_alloc 229 ?_);  refine alloc512K rfl b HB.out (fun w1 hb1 hF1=>?_))))|(refine wEG rfl (fun K hK=>?_);go_simp)|(refine wpE_actp rfl rfl (fun K hK=>?_);simp only [List.getElem_toArray,List.getElem_cons_succ,List.getElem_cons_zero];(first|((with_reducible refine op_alloc 229 ?_);  refine alloc512K rfl b HB.out (fun w1 hb1 hF1=>?_))))|(refine wEA rfl (fun K hK=>?_);go_simp))))
  go_loopg [10] n (fun k s10 wr=>cnRel w r sb p base b n i v xs k s10 wr)
  case atStart =>
    obtain ⟨hR,hP,hO,hbase,hi,hvr,hvs,hn⟩:=H.out
    refine ⟨0,v,_,rfl,by omega,h0,hR.fr hF1 (by simp) (by simp),hb1,by simp,hF1.blk hP (by simp),?_,.inl rfl,hF1.mono (by simp)⟩
    simpa using hO.fr hF1 (by simp)
  case round =>
    obtain ⟨j,v1,cs,rfl,hk,hk0,hRr,hBb,hcl,hPr,hOr,hov,hFr⟩:=hrel
    clear hb1 hF1
    have hn1 : v1.ownBlock ≠ some b ∧ v1.ownBlock ≠ some r ∧ v1.ownBlock ≠ some sb ∧ v1.ownBlock ≠ some p:=by
      rcases hov with e|⟨k,e,h1,h2⟩
      · rw [e];exact ⟨hbv,hvr,hvs,hvp⟩
      · rw [e];refine ⟨fun e=>?_,fun e=>?_,fun e=>?_,fun e=>?_⟩ <;> (cases e;omega)
    obtain ⟨hR,hP,hO,hbase,hi,_,_,hn⟩:=H.out
    have hbl:=hBb.lt
    obtain ⟨m,hm⟩ : ∃ m,m = min 512 (n - j):=⟨_,rfl⟩
    obtain ⟨part,hpart⟩ : ∃ part,part = (xs.drop (i + j)).take m:=⟨_,rfl⟩
    have hpn : part.length = m:=by rw [hpart];simp;omega
    have hm0 : 0 < m:=by omega
    have hmz : (0 : Int) < (m : Int):=by omega
    have hm5 : (m : Int) ≤ 512:=by omega
    have hjm : (j : Int) + (m : Int) ≤ (n : Int):=by omega
    have hjn : (j : Int) < (n : Int):=by omega
    have htk : (xs.drop i).take j ++ part = (xs.drop i).take (j + m):=by rw [hpart,List.take_add,List.drop_drop]
    have hrd:=fun (c : Nat)=>read_more hRr (by omega) b 0 m c cs _ hBb (by omega) (by omega) hbr hbs
    rw [← hpart,hpn] at hrd
    have hwm : ∀ w2,Fr [r,b] wr w2 → Bs w2 b 0 part → ∀ sc,Calls Tryz.prog 273 #[.pointer (some ⟨p,0,none⟩),.slice (some ⟨b,0,none⟩) m sc] w2 fun e w' =>
        e = .returned (.tuple #[.int .i64 m,.nilIface]) ∧ ∃ v',Blk w' p [v',.int .i64 (j + m : Nat)] tMem (0,0) ∧ OwnF base w' v' ((xs.drop i).take (j + m)) ∧ (v'.ownBlock = v1.ownBlock ∨ ∃ k,v'.ownBlock = some k ∧ w2.heap.size ≤ k) ∧ Fr (p :: v1.ownBlock.toList) w2 w':=by
      intro w2 hF hB sc
      have:=memWriteG (sc:=sc) (L:=j) (hF.blk hPr (by simp;exact ⟨Ne.symm hrp,Ne.symm hbp⟩)) (hOr.fr hF (by simp;exact ⟨.inr hn1.2.1,.inr hn1.1⟩)) (by simp;omega) (by omega) hn1.2.2.2 (by have:=hF.size;have:=hFr.size;omega) hB hpn (by omega) hm0 hbp hn1.1
      rw [htk] at this
      exact this
    have HT:=Lib.hid (And.intro hm (And.intro hpn (And.intro hcl (And.intro hk hk0))))
    clear htk hpn hpart hcl hk hm hk0 hR hP hO hbase hi hn hPr hOr
    by_cases hlt : n - j < 512
    · have hmj : m = n - j:=by have:=HT.out;omega
      have hnj : (n : Int) - (j : Int) = (m : Int):=by omega
      have hl5 : (m : Int) < 512:=by omega
      have hjmn : (j : Int) + (m : Int) = (n : Int):=by omega
      have HJ:=Lib.hid (show j + m = n by omega)
      replace hrd:=hrd 512
      have HM:=Lib.hid (fun w2 hF hB=>hwm w2 hF hB 512)
      clear hmj hwm hlt
      go_wp2_with (first
        | go_at_call 254;refine hrd.mono ?_;rintro e w2' ⟨rfl,hR2',hb2',hF2'⟩;obtain ⟨w2,hw2⟩ : ∃ w2,w2 = w2'.drew:=⟨_,rfl⟩;have hR2 : Rdr w2 r sb xs (i + j + m):=hw2 ▸ hR2'.fr (S:=[]) (Fr.drew Fr.refl) (by simp) (by simp);have hb2 : Blk w2 b (lay cs 0 part) 229 (0,0):=hw2 ▸ Blk.drew hb2';have hF2 : Fr [r,b] wr w2:=hw2 ▸ Fr.drew hF2';have HW2:=Lib.hid hw2;clear hw2 hR2' hb2' hF2' hrd
        | go_at_call 273;rw [← HW2.out];refine (HM.out w2 hF2 (Blk.bs (pre:=[]) (post:=cs.drop (0 + part.length)) hb2 (by simp [lay]) rfl)).mono ?_;rintro e w3 ⟨rfl,v3,hP3,hO3,ho3,hF3⟩
        | (refine wre 10 oMemC0 ?_)
        | (refine wre 14 oMemC1 ?_)
        | (with_reducible refine wEI ?_;(first|(refine wEN ?_;skip)|(refine wEF rfl (fun K hK=>?_);go_simp)|(refine wEL rfl rfl (fun K hK=>?_);go_simp)|(refine wER rfl (fun K hK=>?_);go_simp)|(refine wEM rfl (fun K hK=>?_);go_simp;try refine ⟨_,_,⟨rfl,rfl⟩,?_⟩)|(refine wEG rfl (fun K hK=>?_);go_simp)|(refine wEA rfl (fun K hK=>?_);go_simp))))
      go_ret2
      rw [HJ.out] at hP3 hO3
      refine ⟨rfl,v3,hP3,hO3,?_⟩
      refine (hFr.trans hF2 ?_).trans hF3 ?_
      · intro k hk hl
        simp at hk
        rcases hk with rfl|rfl
        · simp
        · have:=HB.out;omega
      · intro k hk hl
        simp at hk
        rcases hk with rfl|hk
        · simp
        · rcases hov with e1|⟨k',e1,h1,h2⟩
          · rw [e1] at hk;simp [hk]
          · rw [e1] at hk;cases hk;omega
    · have hm2 : m = 512:=by have:=HT.out;omega
      have hnl : ¬ (n : Int) - (j : Int) < 512:=by omega
      have HJ:=Lib.hid hm2
      rw [hm2] at hrd hwm hmz hm5 hjm
      replace hrd:=hrd 512
      have HM:=Lib.hid (fun w2 hF hB=>hwm w2 hF hB 512)
      clear hwm hlt
      subst hm2
      by_cases he : n - j = 512
      · have hjmn : (j : Int) + 512 = (n : Int):=by omega
        have HE:=Lib.hid (show j + 512 = n by omega)
        clear he
        go_wp2_with (first
          | go_at_call 254;refine hrd.mono ?_;rintro e w2' ⟨rfl,hR2',hb2',hF2'⟩;obtain ⟨w2,hw2⟩ : ∃ w2,w2 = w2'.drew:=⟨_,rfl⟩;have hR2 : Rdr w2 r sb xs (i + j + 512):=hw2 ▸ hR2'.fr (S:=[]) (Fr.drew Fr.refl) (by simp) (by simp);have hb2 : Blk w2 b (lay cs 0 part) 229 (0,0):=hw2 ▸ Blk.drew hb2';have hF2 : Fr [r,b] wr w2:=hw2 ▸ Fr.drew hF2';have HW2:=Lib.hid hw2;clear hw2 hR2' hb2' hF2' hrd
          | go_at_call 273;rw [← HW2.out];refine (HM.out w2 hF2 (Blk.bs (pre:=[]) (post:=cs.drop (0 + part.length)) hb2 (by simp [lay]) rfl)).mono ?_;rintro e w3 ⟨rfl,v3,hP3,hO3,ho3,hF3⟩
          | (refine wre 10 oMemC0 ?_)
          | (refine wre 14 oMemC1 ?_)
          | (with_reducible refine wEI ?_;(first|(refine wEN ?_;skip)|(refine wEF rfl (fun K hK=>?_);go_simp)|(refine wEL rfl rfl (fun K hK=>?_);go_simp)|(refine wER rfl (fun K hK=>?_);go_simp)|(refine wEM rfl (fun K hK=>?_);go_simp;try refine ⟨_,_,⟨rfl,rfl⟩,?_⟩)|(refine wEG rfl (fun K hK=>?_);go_simp)|(refine wEA rfl (fun K hK=>?_);go_simp))))
        go_ret2
        rw [HE.out] at hP3 hO3
        refine ⟨rfl,v3,hP3,hO3,?_⟩
        refine (hFr.trans hF2 ?_).trans hF3 ?_
        · intro k hk hl
          simp at hk
          rcases hk with rfl|rfl
          · simp
          · have:=HB.out;omega
        · intro k hk hl
          simp at hk
          rcases hk with rfl|hk
          · simp
          · rcases hov with e1|⟨k',e1,h1,h2⟩
            · rw [e1] at hk;simp [hk]
            · rw [e1] at hk;cases hk;omega
      · have hjmn : ¬ (j : Int) + 512 = (n : Int):=by omega
        have HE:=Lib.hid (show j + 512 < n by omega)
        clear he
        go_wp2_with (first
          | go_at_call 254;refine hrd.mono ?_;rintro e w2' ⟨rfl,hR2',hb2',hF2'⟩;obtain ⟨w2,hw2⟩ : ∃ w2,w2 = w2'.drew:=⟨_,rfl⟩;have hR2 : Rdr w2 r sb xs (i + j + 512):=hw2 ▸ hR2'.fr (S:=[]) (Fr.drew Fr.refl) (by simp) (by simp);have hb2 : Blk w2 b (lay cs 0 part) 229 (0,0):=hw2 ▸ Blk.drew hb2';have hF2 : Fr [r,b] wr w2:=hw2 ▸ Fr.drew hF2';have HW2:=Lib.hid hw2;clear hw2 hR2' hb2' hF2' hrd
          | go_at_call 273;rw [← HW2.out];refine (HM.out w2 hF2 (Blk.bs (pre:=[]) (post:=cs.drop (0 + part.length)) hb2 (by simp [lay]) rfl)).mono ?_;rintro e w3 ⟨rfl,v3,hP3,hO3,ho3,hF3⟩
          | (refine wre 10 oMemC0 ?_)
          | (refine wre 14 oMemC1 ?_)
          | (with_reducible refine wEI ?_;(first|(refine wEN ?_;skip)|(refine wEF rfl (fun K hK=>?_);go_simp)|(refine wEL rfl rfl (fun K hK=>?_);go_simp)|(refine wER rfl (fun K hK=>?_);go_simp)|(refine wEM rfl (fun K hK=>?_);go_simp;try refine ⟨_,_,⟨rfl,rfl⟩,?_⟩)|(refine wEG rfl (fun K hK=>?_);go_simp)|(refine wEA rfl (fun K hK=>?_);go_simp))))
        go_roundg (n - (j + 512))
        case measure=>have:=HT.out;omega
        case rel =>
          have hpn:=HT.out.2.1
          have hcl:=HT.out.2.2.1
          refine ⟨j + 512,v3,lay cs 0 part,by push_cast;rfl,by have:=HE.out;omega,by have:=HE.out;omega,by rw [← Nat.add_assoc];exact hR2.fr hF3 (by simp;exact ⟨hrp,hn1.2.1⟩) (by simp;exact ⟨hsp,hn1.2.2.1⟩),hF3.blk hb2 (by simp;exact ⟨hbp,hn1.1⟩),by rw [lay_length (by omega)];exact hcl,hP3,hO3,?_,?_⟩
          · rcases ho3 with e|⟨k,e,h⟩
            · rcases hov with e1|⟨k,e1,h1,h2⟩
              · exact .inl (e.trans e1)
              · exact .inr ⟨k,e.trans e1,h1,h2⟩
            · exact .inr ⟨k,e,by have:=hFr.size;have:=hF2.size;omega,by have:=hF2.size;omega⟩
          · refine (hFr.trans hF2 ?_).trans hF3 ?_
            · intro k hk hl
              simp at hk
              rcases hk with rfl|rfl
              · simp
              · have:=HB.out;omega
            · intro k hk hl
              simp at hk
              rcases hk with rfl|hk
              · simp
              · rcases hov with e1|⟨k',e1,h1,h2⟩
                · rw [e1] at hk;simp [hk]
                · rw [e1] at hk;cases hk;omega
end Go.Proofs.Wx
