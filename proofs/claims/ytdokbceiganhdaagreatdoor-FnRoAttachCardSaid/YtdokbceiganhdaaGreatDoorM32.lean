import Derived.Test.YtdokbceiganhdaaGreatDoorM30
import Derived.Test.YtdokbceiganhdaaGreatDoorM31
set_option maxRecDepth 100000
set_option maxHeartbeats 1000000
set_option linter.unusedVariables false
set_option linter.unusedSimpArgs false
set_option linter.deprecated false
set_option linter.all false
set_option linter.unusedSectionVars false
namespace Go.Proofs.Wx
open Go Go.RowKit Go.Sort
def rowP (x : List UInt8 × Nat) : List UInt8:=x.1 ++ Lib.leBytes 8 x.2
def rowsP (l : List (List UInt8 × Nat)) : List UInt8:=l.flatMap rowP
def DRec.pr (x : DRec) : List UInt8 × Nat:=(x.dig,x.off)
theorem rowsB_pairs (l : List Itm) : rowsB l = rowsP (l.map fun e=>(e.1.dig,e.2)):=by
  unfold rowsB rowsP;rw [List.flatMap_map];rfl
theorem rows_of {d' : List DRec} {l : List Itm} (hp : (d'.map DRec.pr).Perm (l.map fun e=>(e.1.dig,e.2))) (hs : d'.Pairwise fun a b=>a.dig ≤ b.dig) (hd : Distinct l) :
    rowsP (d'.map DRec.pr) = rowsB (sortD l):=by
  rw [rowsB_pairs]
  congr 1
  refine perm_unique (le:=fun (a b : List UInt8 × Nat)=>a.1 ≤ b.1) (hp.trans ((sortD_perm l).symm.map _)) ?_ ?_ ?_
  · rw [List.pairwise_map];exact hs
  · rw [List.pairwise_map];exact sortD_sorted l
  · intro x hx y hy h1 h2
    obtain ⟨a,ha,rfl⟩:=List.mem_map.1 (hp.mem_iff.1 hx)
    obtain ⟨b,hb,rfl⟩:=List.mem_map.1 (hp.mem_iff.1 hy)
    rw [hd.eq a ha b hb (List.le_antisymm h1 h2)]
theorem sorted_rows {l : List DRec} {d' : Array DRec} {n : Nat} {items : List Itm} (hn : l.length = n) (hp : PermIn 0 n l.toArray d') (hs : SortedIn dltR 0 n d') (hpairs : l.map DRec.pr = items.map fun e=>(e.1.dig,e.2)) (hd : Distinct items) :
    d'.size = n ∧ d'.toList.Perm l ∧ rowsP (d'.toList.map DRec.pr) = rowsB (sortD items):=by
  obtain ⟨h1,_,h3⟩:=hp
  subst hn
  have h1' : d'.size = l.length:=by simpa using h1
  have hpm : d'.toList.Perm l:=by
    have e1 : (d'.extract 0 l.length).toList = d'.toList:=by rw [← h1'];simp
    have e2 : (l.toArray.extract 0 l.length).toList = l:=by simp
    rwa [e1,e2] at h3
  refine ⟨h1',hpm,rows_of (by rw [← hpairs];exact hpm.map _) ?_ hd⟩
  rw [List.pairwise_iff_getElem]
  intro i j hi hj hij
  have:=hs i j (Nat.zero_le _) hij (by simp at hj;omega)
  simp only [dltR,decide_eq_false_iff_not,List.not_lt] at this
  have e1 : d'[i]! = d'.toList[i]:=by simp at hi;simp [hi]
  have e2 : d'[j]! = d'.toList[j]:=by simp at hj;simp [hj]
  rw [e1,e2] at this
  exact this
theorem rowsP_length {n : Nat} : ∀ {l : List DRec},(∀ x ∈ l,x.dig.length = n) → (rowsP (l.map DRec.pr)).length = (n + 8) * l.length
  | [],_=>by simp [rowsP]
  | e :: l,h=>by
    have h1:=h e (by simp)
    have h2:=rowsP_length (l:=l) fun x hx=>h x (by simp [hx])
    simp [rowsP,rowP,DRec.pr,Lib.leBytes_length] at *
    rw [h1,h2,Nat.mul_add];omega
theorem own_row2 {w : World} {base n : Nat} {e : TypeId} {g c : Nat} {xs : List Value} (h : w.ownsRow base e 2 (.slice (some ⟨g,0,none⟩) n c) n xs) : base ≤ g ∧ ∃ rest,Blk w g (xs ++ rest) e (0,0):=by
  rcases h.2 with ⟨h0,_⟩|⟨g',cap,cur,h0,hb,hg,_,_,_,ht⟩
  · cases h0
  · cases h0
    refine ⟨hb,cur.toList.drop (n * 2),?_⟩
    have : Blk w g cur.toList e (0,0):=hg
    exact this.conv (by rw [← ht,List.take_append_drop])
theorem perm_map {f : Nat → Value} {rem : List Nat} {k : Nat} {v : Value} {rem' : List (Nat × Value)} (h : (rem.map fun n=>(n,f n)).Perm ((k,v) :: rem')) :
    v = f k ∧ rem' = (rem'.map (·.1)).map (fun n=>(n,f n)) ∧ rem.Perm (k :: rem'.map (·.1)):=by
  have hm : ∀ x ∈ (k,v) :: rem',x.2 = f x.1:=fun x hx=>by
    obtain ⟨n,_,rfl⟩:=List.mem_map.1 (h.mem_iff.2 hx);rfl
  refine ⟨hm (k,v) (by simp),?_,?_⟩
  · rw [List.map_map]
    refine ((List.map_congr_left fun x hx=>?_).trans (List.map_id _)).symm
    have:=hm x (by simp [hx])
    show (x.1,f x.1) = x
    rw [← this]
  · have:=h.map (·.1)
    rw [List.map_map] at this
    simpa [Function.comp_def] using this
/-- What of the rows and their digests stands apart, whatever the world. -/
structure Ap (base R M : Nat) (L : List Itm) (ks : List Nat) (rv : Nat → Value) (dr : Nat → List DRec) : Prop where
  row : ∀ n ∈ ks,∃ g c,rv n = .slice (some ⟨g,0,none⟩) (dr n).length c ∧ base ≤ g ∧ g < R ∧ g ≠ M ∧ ∀ m ∈ ks,∀ x ∈ dr m,x.b ≠ g
  dg : ∀ n ∈ ks,∀ x ∈ dr n,base ≤ x.b ∧ x.b < R ∧ x.b ≠ M
  rr : ∀ n ∈ ks,∀ m ∈ ks,n ≠ m → (rv n).ownBlock ≠ (rv m).ownBlock
  dd : ∀ n ∈ ks,∀ m ∈ ks,n ≠ m → ∀ x ∈ dr n,∀ y ∈ dr m,x.b ≠ y.b
  nd : ks.Nodup
  mem : ∀ n,n ∈ ks ↔ n ∈ L.map fun e=>e.1.dig.length
  pairs : ∀ n ∈ ks,(dr n).map DRec.pr = (ofW L n).map fun e=>(e.1.dig,e.2)
structure L2 (w : World) (R M bm : Nat) (L : List Itm) (ks : List Nat) (rv : Nat → Value) (dr : Nat → List DRec) (rem done : List Nat) (ib : Nat → Nat) : Prop where
  perm : ks.Perm (done ++ rem)
  it : It w R M .i64 (rem.map fun n=>(n,rv n))
  mp : Mp w bm .u32 (done.map fun n=>(n + 8,swV n (ofW L n).length (ib n)))
  row : ∀ n ∈ rem,∃ g c rest,rv n = .slice (some ⟨g,0,none⟩) (dr n).length c ∧ Blk w g (encs (dr n) ++ rest) tDR (0,0) ∧ ∀ x ∈ dr n,Bs w x.b x.o x.dig
  don : ∀ n ∈ done,Bs w (ib n) 0 (rowsB (sortD (ofW L n))) ∧ R < ib n
section
variable {w w' : World} {base R M bm : Nat} {L : List Itm} {ks rem rem' done : List Nat} {rv : Nat → Value} {dr : Nat → List DRec} {ib : Nat → Nat}
theorem L1.ap (h : L1 w base M L [] ks rv dr) (hR : R = w.heap.size) : Ap base R M L ks rv dr:=by
  subst hR
  refine ⟨fun n hn=>?_,fun n hn x hx=>?_,h.tab.dis,h.dg.2,h.tab.nodup,fun n=>by have:=h.mem n;simpa using this,h.pairs⟩
  · obtain ⟨g,c,e,hg⟩:=h.tab.sl n hn
    rw [List.length_map] at e
    have:=h.tab.ownLt hn (k:=g) (by rw [e];rfl)
    exact ⟨g,c,e,this.1,this.2.1,hg,fun m hm x hx e2=>(h.dg.1 m hm x hx).2.2.2 n hn (by rw [e,e2];rfl)⟩
  · obtain ⟨h1,h2,h3,_⟩:=h.dg.1 n hn x hx
    exact ⟨h2,h1.lt,h3⟩
theorem L1.l2 (h : L1 w base M L [] ks rv dr) {ob : Obj} (hI : It (w.alloc ob) R M .i64 (ks.map fun n=>(n,rv n))) (hB : Mp (w.alloc ob) bm .u32 []) : L2 (w.alloc ob) R M bm L ks rv dr ks [] ib:=by
  refine ⟨by simp,hI,hB,fun n hn=>?_,by simp⟩
  obtain ⟨g,c,e,hg⟩:=h.tab.sl n hn
  rw [List.length_map] at e
  obtain ⟨_,rest,hb⟩:=own_row2 (e ▸ h.own hn)
  exact ⟨g,c,rest,e,hb.alloc,fun x hx=>(h.dg.1 n hn x hx).1.alloc ob⟩
theorem Ap.lt (h : Ap base R M L ks rv dr) (hM : M < R) : ∀ {n g : Nat},n ∈ ks → (rv n).ownBlock = some g → base ≤ g ∧ g < R ∧ g ≠ M ∧ ∀ m ∈ ks,∀ x ∈ dr m,x.b ≠ g:=by
  intro n g hn hg
  obtain ⟨g',c,e,h1⟩:=h.row n hn
  rw [e] at hg
  simp [Value.ownBlock] at hg
  subst hg;exact h1
/-- A round: the rows of n have been sorted and written. -/
theorem L2.step {n g G : Nat} (h : L2 w R M bm L ks rv dr rem done ib) (ha : Ap base R M L ks rv dr) (hM : M < R) (hbm : bm < base) (hbR : base ≤ R) (hp : rem.Perm (n :: rem')) (hI : It w' R M .i64 (rem'.map fun n=>(n,rv n))) (hg : (rv n).ownBlock = some g)
    (hF : Fr (R :: bm :: g :: (dr n).map (·.b)) w w') (hMp : Mp w' bm .u32 ((done.map fun n=>(n + 8,swV n (ofW L n).length (ib n))) ++ [(n + 8,swV n (ofW L n).length G)])) (hB : Bs w' G 0 (rowsB (sortD (ofW L n)))) (hG : R < G) :
    L2 w' R M bm L ks rv dr rem' (done ++ [n]) (upd ib n G):=by
  have hall : ks.Perm (done ++ n :: rem'):=h.perm.trans (List.Perm.append_left _ hp)
  have hnd:=hall.nodup_iff.1 ha.nd
  rw [List.nodup_append] at hnd
  obtain ⟨hd1,hd2,hd3⟩:=hnd
  have hnk : n ∈ ks:=hall.mem_iff.2 (by simp)
  have hndone : ∀ m ∈ done,m ≠ n:=fun m hm=>hd3 m hm n (by simp)
  refine ⟨by simpa using hall,hI,?_,fun m hm=>?_,fun m hm=>?_⟩
  · refine (congrArg (Mp w' bm .u32) ?_).mp hMp
    rw [List.map_append,List.map_singleton,upd_same]
    congr 1
    exact List.map_congr_left fun m hm=>by rw [upd_ne (hndone m hm)]
  · have hmr : m ∈ rem:=hp.mem_iff.2 (by simp [hm])
    have hmk : m ∈ ks:=h.perm.mem_iff.2 (by simp [hmr])
    have hmn : m ≠ n:=fun e=>by subst e;exact (List.nodup_cons.1 hd2).1 hm
    obtain ⟨gm,c,rest,e1,e2,e3⟩:=h.row m hmr
    have ho : (rv m).ownBlock = some gm:=by rw [e1];rfl
    have hgm:=ha.lt hM hmk ho
    have hgn:=ha.lt hM hnk hg
    refine ⟨gm,c,rest,e1,hF.blk e2 ?_,fun x hx=>(e3 x hx).fr hF ?_⟩
    · simp only [List.mem_cons,List.mem_map,not_or,not_exists,not_and]
      refine ⟨by omega,by omega,fun e=>ha.rr m hmk n hnk hmn (by rw [ho,hg,e]),fun x hx e=>hgm.2.2.2 n hnk x hx e⟩
    · have hx2:=ha.dg m hmk x hx
      simp only [List.mem_cons,List.mem_map,not_or,not_exists,not_and]
      refine ⟨by omega,by omega,hgn.2.2.2 m hmk x hx,fun y hy e=>ha.dd n hnk m hmk (Ne.symm hmn) y hy x hx e⟩
  · rcases List.mem_append.1 hm with hm|hm
    · rw [upd_ne (hndone m hm)]
      obtain ⟨e1,e2⟩:=h.don m hm
      have hgn:=ha.lt hM hnk hg
      refine ⟨e1.fr hF ?_,e2⟩
      simp only [List.mem_cons,List.mem_map,not_or,not_exists,not_and]
      refine ⟨by omega,by omega,by omega,fun x hx e=>?_⟩
      have:=ha.dg n hnk x hx
      omega
    · simp at hm;subst hm
      rw [upd_same];exact ⟨hB,hG⟩
theorem L2.fr {S : List Nat} (h : L2 w R M bm L ks rv dr rem done ib) (ha : Ap base R M L ks rv dr) (hM : M < R) (hbm : bm < base) (hbR : base ≤ R) (hI : It w' R M .i64 (rem'.map fun n=>(n,rv n))) (hp : rem.Perm rem') (hF : Fr S w w') (hS : ∀ k ∈ S,k = R) : L2 w' R M bm L ks rv dr rem' done ib:=by
  refine ⟨h.perm.trans (List.Perm.append_left _ hp),hI,h.mp.fr hF (fun hm=>by have:=hS _ hm;omega),fun m hm=>?_,fun m hm=>?_⟩
  · have hmr : m ∈ rem:=hp.mem_iff.2 hm
    have hmk : m ∈ ks:=h.perm.mem_iff.2 (by simp [hmr])
    obtain ⟨gm,c,rest,e1,e2,e3⟩:=h.row m hmr
    have hgm:=ha.lt hM hmk (g:=gm) (by rw [e1];rfl)
    exact ⟨gm,c,rest,e1,hF.blk e2 (fun hm=>by have:=hS _ hm;omega),fun x hx=>(e3 x hx).fr hF (fun hm=>by have:=hS _ hm;have:=ha.dg m hmk x hx;omega)⟩
  · obtain ⟨e1,e2⟩:=h.don m hm
    exact ⟨e1.fr hF (fun hm=>by have:=hS _ hm;omega),e2⟩
theorem look_none {f : Nat → Value} {n : Nat} : ∀ {ks : List Nat},n ∉ ks → (ks.map fun n=>(n + 8,f n)).lookup (n + 8) = none
  | [],_=>rfl
  | k :: ks,h=>by
    rw [List.map_cons,List.lookup_cons,show (n + 8 == k + 8) = false by simp;intro e;exact h (by simp [e])]
    exact look_none fun hm=>h (by simp [hm])
theorem L2.fresh (h : L2 w R M bm L ks rv dr rem done ib) (ha : Ap base R M L ks rv dr) {n : Nat} (hp : rem.Perm (n :: rem')) : n ∈ ks ∧ n ∉ done:=by
  have hall : ks.Perm (done ++ n :: rem'):=h.perm.trans (List.Perm.append_left _ hp)
  have hnd:=hall.nodup_iff.1 ha.nd
  rw [List.nodup_append] at hnd
  exact ⟨hall.mem_iff.2 (by simp),fun hm=>hnd.2.2 n hm n (by simp) rfl⟩
theorem L2.grp {D : Nat → Prop} (h : L2 w R M bm L ks rv dr [] done ib) (ha : Ap base R M L ks rv dr) (hD1 : D bm) (hD2 : ∀ b,base ≤ b → b < w.heap.size → D b) (hbR : base ≤ R) : Grp w bm D L done ib:=by
  have hp : ks.Perm done:=by simpa using h.perm
  refine ⟨h.mp,hD1,hp.nodup_iff.1 ha.nd,fun n=>?_,fun n hn=>?_⟩
  · rw [← hp.mem_iff];exact ha.mem n
  · obtain ⟨e1,e2⟩:=h.don n hn
    exact ⟨e1,hD2 _ (by omega) e1.lt⟩
/-- The rows of n, as they are sorted. -/
theorem L2.st {n : Nat} (h : L2 w R M bm L ks rv dr rem done ib) (ha : Ap base R M L ks rv dr) (hn : n ∈ rem) : ∃ g c rest,rv n = .slice (some ⟨g,0,none⟩) (dr n).length c ∧ (recSt g ((dr n).map (·.b)) rest).S (dr n).toArray w ∧ base ≤ g ∧ g < R ∧ (∀ x ∈ dr n,base ≤ x.b ∧ x.b < R) ∧ (dr n).map DRec.pr = (ofW L n).map (fun e=>(e.1.dig,e.2)):=by
  have hmk : n ∈ ks:=h.perm.mem_iff.2 (by simp [hn])
  obtain ⟨g,c,rest,e1,e2,e3⟩:=h.row n hn
  obtain ⟨g',c',f1,f2,f3,f4,f5⟩:=ha.row n hmk
  rw [e1] at f1
  cases f1
  refine ⟨g,c,rest,e1,⟨e2,fun x hx=>⟨e3 x (by simpa using hx),List.mem_map.2 ⟨x,by simpa using hx,rfl⟩⟩,?_,?_⟩,f2,f3,fun x hx=>?_,ha.pairs n hmk⟩
  · simp only [List.mem_map,not_exists,not_and]
    exact fun x hx=>f5 n hmk x hx
  · intro k hk
    obtain ⟨x,hx,rfl⟩:=List.mem_map.1 hk
    exact (e3 x hx).lt
  · have:=ha.dg n hmk x hx;exact ⟨this.1,this.2.1⟩
theorem pr_mem {n : Nat} {l : List DRec} (h : l.map DRec.pr = (ofW L n).map fun e=>(e.1.dig,e.2)) {x : DRec} (hx : x ∈ l) : ∃ e ∈ L,x.dig = e.1.dig ∧ x.off = e.2 ∧ x.dig.length = n:=by
  have : x.pr ∈ (ofW L n).map fun e=>(e.1.dig,e.2):=by rw [← h];exact List.mem_map.2 ⟨x,hx,rfl⟩
  obtain ⟨e,he,hp⟩:=List.mem_map.1 this
  simp only [DRec.pr,Prod.mk.injEq] at hp
  exact ⟨e,(List.mem_filter.1 he).1,hp.1.symm,hp.2.symm,by rw [← hp.1];exact ofW_len he⟩
end
end Go.Proofs.Wx
