import Derived.Test.YtdokbceiganhdaaGreatDoorM1
import Derived.Test.YtdokbceiganhdaaGreatDoorM15
import Derived.Test.YtdokbceiganhdaaGreatDoorM24
import Derived.Test.YtdokbceiganhdaaGreatDoorM29
import Derived.Maps.RangeRun
import Derived.MapKept
set_option maxRecDepth 100000
set_option maxHeartbeats 1000000
set_option linter.unusedVariables false
set_option linter.unusedSimpArgs false
set_option linter.deprecated false
set_option linter.all false
set_option linter.unusedSectionVars false
namespace Go.Proofs.Wx
open Go Go.RowKit
open Go.ChangeMaps (setBlock)
theorem Fr.setBlock {S : List Nat} {w w' : World} {g : Nat} {o : Obj} (hg : g ∈ S ∨ w.heap.size ≤ g) (h : Fr S w w') : Fr S w (setBlock w' g o) :=
  ⟨h.os,h.tape,h.output,by have:=h.size;simp [ChangeMaps.setBlock];omega,fun k hk hn=>by
    have : g ≠ k:=fun e=>by rcases hg with hg|hg;exact hn (e ▸ hg);omega
    simp [ChangeMaps.setBlock,this];exact h.block k hk hn⟩
def kv (q : IntKind) (x : Nat × Value) : Value × Value:=(.int q (x.1 : Nat),x.2)
theorem kv_cons {q : IntKind} {e : MapEntry} {es : List MapEntry} {L : List (Nat × Value)} (h : (e :: es).map (fun e=>(e.key,e.val)) = L.map (kv q)) :
    ∃ k v L',L = (k,v) :: L' ∧ e.key = .int q (k : Nat) ∧ e.val = v ∧ es.map (fun e=>(e.key,e.val)) = L'.map (kv q):=by
  cases L with
  | nil=>simp at h
  | cons x L' =>
    obtain ⟨k,v⟩:=x
    simp [kv] at h
    exact ⟨k,v,L',rfl,h.1.1,h.1.2,by simpa [kv] using h.2⟩
theorem sameNow_int (q : IntKind) (a b : Nat) : Instr.sameNow (.int q) (.int q (a : Nat)) (.int q (b : Nat)) = some (a == b):=by
  have : (((a : Nat) : Int) == ((b : Nat) : Int)) = (a == b):=by
    by_cases h : a = b
    · subst h;simp
    · rw [beq_eq_false_iff_ne.2 h,beq_eq_false_iff_ne];omega
  rw [← this]
  show (if q = q then some (((a : Nat) : Int) == ((b : Nat) : Int)) else none) = _
  rw [if_pos rfl]
theorem find_none (q : IntKind) (k : Nat) : ∀ (es : List MapEntry) (L : List (Nat × Value)) (i : Nat),es.map (fun e=>(e.key,e.val)) = L.map (kv q) → L.lookup k = none →
    Instr.findNow (.int q) (.int q (k : Nat)) es i = some none
  | [],_,_,_,_=>rfl
  | e :: es,L,i,h,hk=>by
    obtain ⟨k',v,L',rfl,h1,h2,h3⟩:=kv_cons h
    rw [List.lookup_cons] at hk
    by_cases e1 : k = k'
    · subst e1;simp at hk
    · rw [show (k == k') = false by simpa using e1] at hk
      rw [Instr.findNow,h1,sameNow_int,show (k == k') = false by simpa using e1]
      exact find_none q k es L' _ h3 hk
theorem find_some (q : IntKind) (k : Nat) (v : Value) : ∀ (es : List MapEntry) (L : List (Nat × Value)) (i : Nat),es.map (fun e=>(e.key,e.val)) = L.map (kv q) → L.lookup k = some v →
    ∃ j,Instr.findNow (.int q) (.int q (k : Nat)) es i = some (some (i + j,v)) ∧ L[j]? = some (k,v)
  | [],L,_,h,hk=>by
    cases L with
    | nil=>simp at hk
    | cons=>simp at h
  | e :: es,L,i,h,hk=>by
    obtain ⟨k',v',L',rfl,h1,h2,h3⟩:=kv_cons h
    rw [List.lookup_cons] at hk
    by_cases e1 : k = k'
    · subst e1
      simp at hk
      refine ⟨0,?_,by simp [hk]⟩
      rw [Instr.findNow,h1,sameNow_int]
      simp [h2,hk]
    · rw [show (k == k') = false by simpa using e1] at hk
      obtain ⟨j,hj1,hj2⟩:=find_some q k v es L' (i + 1) h3 hk
      refine ⟨j + 1,?_,by simpa using hj2⟩
      rw [Instr.findNow,h1,sameNow_int,show (k == k') = false by simpa using e1]
      simp only [hj1];congr 3;omega
/-- Block b is a map of these entries, in the order in which they came. -/
def Mp (w : World) (b : Nat) (q : IntKind) (L : List (Nat × Value)) : Prop:=∃ es clock,w.heap[b]? = some (.map es clock) ∧ es.toList.map (fun e=>(e.key,e.val)) = L.map (kv q) ∧
  (es.toList.map (·.born)).Nodup ∧ (∀ e ∈ es.toList,e.born < clock)
section
variable {P : Program} {w w' : World} {b : Nat} {q : IntKind} {L : List (Nat × Value)}
theorem Mp.lt (h : Mp w b q L) : b < w.heap.size:=by obtain ⟨es,c,h1,_⟩:=h;exact (Array.getElem?_eq_some_iff.1 h1).1
theorem Mp.fr {S : List Nat} (h : Mp w b q L) (hf : Fr S w w') (hn : b ∉ S) : Mp w' b q L:=by
  have hl:=h.lt
  obtain ⟨es,c,h1,h2⟩:=h
  exact ⟨es,c,by rw [hf.block b hl hn];exact h1,h2⟩
theorem Mp.new : Mp (w.alloc (.map #[] 0)) w.heap.size q []:=⟨#[],0,by show (w.heap.push _)[w.heap.size]? = _;simp,rfl,by simp,by simp⟩
theorem isKey (q : IntKind) (k : Nat) : MapKept.IsKey (.int q) (.int q (k : Nat)):=by first|exact ⟨_,rfl⟩|(simp [MapKept.IsKey];done)|trivial
theorem Mp.look (h : Mp w b q L) {T K E : TypeId} (hu : P.underlying T = some (.map K E)) (hk : P.underlying K = some (.int q)) {z : Value} (hz : ∀ w,(zeroValue E).run P w = .ok z w) (k : Nat) (c : Bool) :
    (Instr.lookup T (.map (some b)) (.int q (k : Nat)) c).run P w = .ok (if c then .tuple #[(L.lookup k).getD z,.bool (L.lookup k).isSome] else (L.lookup k).getD z) w:=by
  obtain ⟨es,clock,h1,h2,h3,h4⟩:=h
  have hck : ∀ e,(Instr.checkKey e 10000 K (.int q (k : Nat))).run P w = .ok () w:=fun e=>MapKept.run_checkKey hk (isKey q k) e 9999
  cases hl : L.lookup k with
  | none =>
    have hf:=MapKept.run_findKey (P:=P) (w:=w) hk (find_none q k es.toList L 0 h2 hl)
    simp [Instr.lookup,run_underlying hu,getObj,Sem.run_bind,Sem.run,h1,Result.andThen,hck,hf,hz]
  | some v =>
    obtain ⟨j,hj,_⟩:=find_some q k v es.toList L 0 h2 hl
    have hf:=MapKept.run_findKey (P:=P) (w:=w) hk hj
    simp [Instr.lookup,run_underlying hu,getObj,Sem.run_bind,Sem.run,h1,Result.andThen,hck,hf]
theorem stays (q : IntKind) (k : Nat) : (Instr.keyThatStays (.int q (k : Nat)) (.int q (k : Nat))).run P w = .ok (.int q (k : Nat)) w:=by
  simp [Instr.keyThatStays,Instr.sameBits,Sem.run]
theorem Mp.put (h : Mp w b q L) {T K E : TypeId} (hu : P.underlying T = some (.map K E)) (hk : P.underlying K = some (.int q)) (k : Nat) (v : Value) :
    ∃ w',(Instr.mapUpdate T (.map (some b)) (.int q (k : Nat)) v).run P w = .ok () w' ∧ Fr [b] w w' ∧
      ((L.lookup k = none ∧ Mp w' b q (L ++ [(k,v)])) ∨ ∃ j v0,L[j]? = some (k,v0) ∧ L.lookup k = some v0 ∧ Mp w' b q (L.set j (k,v))):=by
  have hlt:=h.lt
  obtain ⟨es,clock,h1,h2,h3,h4⟩:=h
  have hck : ∀ e,(Instr.checkKey e 10000 K (.int q (k : Nat))).run P w = .ok () w:=fun e=>MapKept.run_checkKey hk (isKey q k) e 9999
  have hso : ∀ o',(setObj b o').run P w = .ok () (setBlock w b o'):=fun o'=>by simp [setObj,Sem.run,h1,ChangeMaps.setBlock]
  have hnb : ∀ o',(setBlock w b o').heap[b]? = some o':=fun o'=>by simp [ChangeMaps.setBlock,hlt]
  cases hl : L.lookup k with
  | none =>
    have hf:=MapKept.run_findKey (P:=P) (w:=w) hk (find_none q k es.toList L 0 h2 hl)
    refine ⟨setBlock w b (.map (es.push { key:=.int q (k : Nat),val:=v,born:=clock }) (clock + 1)),?_,Fr.setBlock (.inl (by simp)) Fr.refl,.inl ⟨rfl,_,_,hnb _,?_,?_,?_⟩⟩
    · simp [Instr.mapUpdate,run_underlying hu,getObj,Sem.run_bind,Sem.run,h1,Result.andThen,hck,hf,hso]
    · simp [h2,kv]
    · simp only [Array.toList_push,List.map_append,List.map_cons,List.map_nil]
      rw [List.nodup_append]
      refine ⟨h3,by simp,?_⟩
      intro a ha c hc
      simp at ha hc
      obtain ⟨e,he,rfl⟩:=ha
      have:=h4 e (by simpa using he)
      omega
    · intro e he
      simp at he
      rcases he with he|rfl
      · have:=h4 e (by simpa using he);omega
      · simp
  | some v0 =>
    obtain ⟨j,hj,hLj⟩:=find_some q k v0 es.toList L 0 h2 hl
    have hf:=MapKept.run_findKey (P:=P) (w:=w) hk hj
    have hjl : j < es.toList.length:=by
      have:=congrArg List.length h2
      have:=(List.getElem?_eq_some_iff.1 hLj).1
      simp at *;omega
    have hjs : j < es.size:=by simpa using hjl
    have hkj : es[j]? = some (es[j]'hjs):=by simp [hjs]
    have hke : (es[j]'hjs).key = .int q (k : Nat):=by
      have:=congrArg (fun l=>l[j]?) h2
      simp only [List.getElem?_map,hLj,List.getElem?_eq_getElem hjl,Option.map_some,kv] at this
      simpa using (congrArg Prod.fst (Option.some.inj this))
    refine ⟨setBlock w b (.map (es.modify (0 + j) fun e=>{ e with key:=.int q (k : Nat),val:=v }) clock),?_,Fr.setBlock (.inl (by simp)) Fr.refl,.inr ⟨j,v0,hLj,rfl,_,_,hnb _,?_,?_,?_⟩⟩
    · simp [Instr.mapUpdate,run_underlying hu,getObj,Sem.run_bind,Sem.run,h1,Result.andThen,hck,hf,hso,hkj,hke,stays]
    · rw [Array.toList_modify,Nat.zero_add]
      refine List.ext_getElem? fun i=>?_
      have:=congrArg (fun l=>l[i]?) h2
      simp only [List.getElem?_map,List.getElem?_modify,List.getElem?_set] at this ⊢
      by_cases hij : j = i
      · subst hij
        have hjL : j < L.length:=(List.getElem?_eq_some_iff.1 hLj).1
        simp [List.getElem?_eq_getElem hjl,kv,hjL]
      · simpa [hij] using this
    · rw [Array.toList_modify]
      have : (es.toList.modify (0 + j) fun e=>{ e with key:=.int q (k : Nat),val:=v }).map (·.born) = es.toList.map (·.born):=by
        refine List.ext_getElem? fun i=>?_
        simp only [List.getElem?_map,List.getElem?_modify]
        by_cases hij : j = i
        · simp [hij];cases es[i]? <;> rfl
        · simp [hij]
      rw [this];exact h3
    · intro e he
      rw [Array.toList_modify] at he
      obtain ⟨i,hi⟩:=List.mem_iff_getElem?.1 he
      rw [List.getElem?_modify] at hi
      obtain ⟨e',he',rfl⟩:=Option.map_eq_some_iff.1 hi
      have:=h4 e' (List.mem_of_getElem? he')
      split <;> simpa using this
/-- Block r is an iterator over the map b; these entries are still to come. -/
def It (w : World) (r b : Nat) (q : IntKind) (rem : List (Nat × Value)) : Prop:=∃ es clock seen,w.heap[b]? = some (.map es clock) ∧ w.heap[r]? = some (.mapIter (some b) clock seen clock) ∧
  (leftOf es seen).toList.map (fun e=>(e.key,e.val)) = rem.map (kv q) ∧ (es.toList.map (·.born)).Nodup ∧ (∀ e ∈ es.toList,e.born < clock)
/-- The iterator r has just handed out this entry. -/
def Ent (w : World) (r b : Nat) (k : Value) (v : Value) : Prop:=∃ (es : Array MapEntry) (clock : Nat) (seen : Array Nat) (e : MapEntry),w.heap[b]? = some (.map es clock) ∧ w.heap[r]? = some (.mapIter (some b) clock (seen.push e.born) clock) ∧ e ∈ es.toList ∧ (es.toList.map (·.born)).Nodup ∧ e.key = k ∧ e.val = v
theorem It.fr {r : Nat} {rem : List (Nat × Value)} {S : List Nat} (h : It w r b q rem) (hf : Fr S w w') (hr : r ∉ S) (hb : b ∉ S) : It w' r b q rem:=by
  obtain ⟨es,c,seen,h1,h2,h3⟩:=h
  exact ⟨es,c,seen,by rw [hf.block b (Array.getElem?_eq_some_iff.1 h1).1 hb];exact h1,by rw [hf.block r (Array.getElem?_eq_some_iff.1 h2).1 hr];exact h2,h3⟩
theorem Ent.fr {r : Nat} {k v : Value} {S : List Nat} (h : Ent w r b k v) (hf : Fr S w w') (hr : r ∉ S) (hb : b ∉ S) : Ent w' r b k v:=by
  obtain ⟨es,c,seen,e,h1,h2,h3⟩:=h
  exact ⟨es,c,seen,e,by rw [hf.block b (Array.getElem?_eq_some_iff.1 h1).1 hb];exact h1,by rw [hf.block r (Array.getElem?_eq_some_iff.1 h2).1 hr];exact h2,h3⟩
theorem Ent.run {r : Nat} {k v : Value} (h : Ent w r b k v) : (Instr.entry (.pointer (some ⟨r,0,none⟩))).run P w = .ok (.tuple #[k,v]) w:=by
  obtain ⟨es,c,seen,e,h1,h2,h3,h4,rfl,rfl⟩:=h
  exact run_entry_at w r b c seen es c e h2 h1 h3 h4
theorem Mp.range (h : Mp w b q L) {T K E : TypeId} (hu : P.underlying T = some (.map K E)) :
    ∃ ob,(Instr.range T (.map (some b))).run P w = .ok (.pointer (some ⟨w.heap.size,0,none⟩)) (w.alloc ob) ∧ It (w.alloc ob) w.heap.size b q L:=by
  have hlt:=h.lt
  obtain ⟨es,clock,h1,h2,h3,h4⟩:=h
  refine ⟨.mapIter (some b) clock #[] clock,?_,es,clock,#[],?_,by show (w.heap.push _)[w.heap.size]? = _;simp,?_,h3,h4⟩
  · simp [Instr.range,run_underlying hu,getObj,newObj,Sem.run_bind,Sem.run,h1,Result.andThen]
  · rw [Below.heap_alloc _ _ _ hlt];exact h1
  · show ((es.filter fun e=>!(#[] : Array Nat).contains e.born).toList).map _ = _
    rw [Array.toList_filter,List.filter_eq_self.2 (by simp)];exact h2
theorem It.next {r : Nat} {rem : List (Nat × Value)} (h : It w r b q rem) (ty : TypeId) (hrb : r ≠ b) :
    (rem = [] ∧ (Instr.next (.pointer (some ⟨r,0,none⟩)) false ty).run P w = .ok (.tuple #[.bool false]) w) ∨
    ∃ k v rem' w',rem.Perm ((k,v) :: rem') ∧ (Instr.next (.pointer (some ⟨r,0,none⟩)) false ty).run P w = .ok (.tuple #[.bool true,.int q (k : Nat),v]) w' ∧ It w' r b q rem' ∧ Ent w' r b (.int q (k : Nat)) v ∧ Fr [r] w w':=by
  obtain ⟨es,clock,seen,h1,h2,h3,h4,h5⟩:=h
  have hrl:=(Array.getElem?_eq_some_iff.1 h2).1
  have hl:=h3
  rcases run_next_at (P:=P) w ty r b clock clock seen es clock h2 h1 h5 (Nat.le_refl _) with ⟨h0,hrun⟩|⟨e,he,w1,hw1,hrun⟩
  · left
    refine ⟨?_,hrun⟩
    have:=congrArg List.length h3
    simp [h0] at this
    exact List.eq_nil_of_length_eq_zero this.symm
  · right
    obtain ⟨heE,hes⟩:=mem_left he
    -- the entry among the pairs
    have hmem : (e.key,e.val) ∈ rem.map (kv q):=by rw [← h3];exact List.mem_map.2 ⟨e,he,rfl⟩
    obtain ⟨x,hx,hxe⟩:=List.mem_map.1 hmem
    obtain ⟨k,v⟩:=x
    simp only [kv,Prod.mk.injEq] at hxe
    -- what is left behind it
    have hleft : (leftOf es seen).toList.Perm (e :: (leftOf es (seen.push e.born)).toList):=by
      have hnd : ((leftOf es seen).toList.map (·.born)).Nodup:=by
        refine List.Sublist.nodup ?_ h4
        unfold leftOf
        rw [Array.toList_filter]
        exact List.Sublist.map _ List.filter_sublist
      have hsplit : (leftOf es (seen.push e.born)).toList = (leftOf es seen).toList.filter (fun x=>x.born != e.born):=by
        unfold leftOf
        simp only [Array.toList_filter,List.filter_filter]
        refine List.filter_congr fun x _=>?_
        simp [Array.contains_iff_mem,bne,Bool.and_comm]
        by_cases hxb : x.born = e.born <;> simp [hxb]
      rw [hsplit]
      clear hsplit h3 hl hrun
      generalize (leftOf es seen).toList = l at *
      induction l with
      | nil=>simp at he
      | cons y l ih =>
        simp only [List.map_cons,List.nodup_cons] at hnd
        rcases List.mem_cons.1 he with rfl|he'
        · have : l.filter (fun x=>x.born != e.born) = l:=List.filter_eq_self.2 fun x hx=>by
            have : x.born ≠ e.born:=fun hb=>hnd.1 (hb ▸ List.mem_map.2 ⟨x,hx,rfl⟩)
            simpa using this
          simp [this]
        · have hyb : y.born ≠ e.born:=fun hb=>hnd.1 (hb ▸ List.mem_map.2 ⟨e,he',rfl⟩)
          have:=ih he' hnd.2
          rw [List.filter_cons_of_pos (by simpa using hyb)]
          exact (this.cons y).trans (List.Perm.swap ..)
    have hp : (rem.map (kv q)).Perm ((kv q (k,v)) :: (leftOf es (seen.push e.born)).toList.map (fun e=>(e.key,e.val))):=by
      rw [← h3]
      have:=hleft.map (fun e : MapEntry=>(e.key,e.val))
      simpa [kv,hxe.1,hxe.2] using this
    -- pull the permutation back
    let g : Value × Value → Nat × Value:=fun x=>(match x.1 with|.int _ n=>n.toNat|_=>0,x.2)
    have hg : ∀ x,g (kv q x) = x:=fun x=>by obtain ⟨a,c⟩:=x;simp [g,kv]
    have hgm : ∀ l : List (Nat × Value),(l.map (kv q)).map g = l:=fun l=>by rw [List.map_map];exact (List.map_congr_left fun x _=>hg x).trans (List.map_id l)
    have hrem' : (leftOf es (seen.push e.born)).toList.map (fun e=>(e.key,e.val)) = (((leftOf es (seen.push e.born)).toList.map (fun e=>(e.key,e.val))).map g).map (kv q):=by
      rw [List.map_map]
      refine ((List.map_congr_left fun y hy=>?_).trans (List.map_id _)).symm
      have : y ∈ rem.map (kv q):=hp.mem_iff.2 (List.mem_cons_of_mem _ hy)
      obtain ⟨x,_,rfl⟩:=List.mem_map.1 this
      show kv q (g (kv q x)) = id (kv q x)
      rw [hg];rfl
    have hperm : rem.Perm ((k,v) :: ((leftOf es (seen.push e.born)).toList.map (fun e=>(e.key,e.val))).map g):=by
      have:=hp.map g
      rwa [hgm,List.map_cons,hg] at this
    have hbr : ∀ o,(setBlock w1 r o).heap[b]? = some (.map es clock):=fun o=>by
      have : w1.heap = w.heap:=by rcases hw1 with rfl|rfl <;> rfl
      simp [ChangeMaps.setBlock,this,Array.getElem?_setIfInBounds,hrb,h1]
    have hrr : ∀ o,(setBlock w1 r o).heap[r]? = some o:=fun o=>by
      have : w1.heap = w.heap:=by rcases hw1 with rfl|rfl <;> rfl
      simp [ChangeMaps.setBlock,this,hrl]
    refine ⟨k,v,_,_,hperm,by rw [hxe.1,hxe.2];exact hrun,⟨es,clock,_,hbr _,hrr _,hrem',h4,h5⟩,⟨es,clock,seen,e,hbr _,hrr _,heE,h4,hxe.1.symm,hxe.2.symm⟩,?_⟩
    refine Fr.setBlock (.inl (by simp)) ?_
    rcases hw1 with rfl|rfl
    · exact Fr.refl
    · exact Fr.drew Fr.refl
end
end Go.Proofs.Wx

namespace Go.Proofs.Wx
open Go Go.RowKit
theorem sorted_list {d d' : Array Int} {n : Nat} (hn : d.size = n) (hp : Go.Sort.PermIn 0 n d d') (hs : Go.Sort.SortedIn Go.Sort.ltInt 0 n d') : d'.toList.Perm d.toList ∧ d'.toList.Pairwise (· ≤ ·):=by
  obtain ⟨h1,_,h3⟩:=hp
  subst hn
  refine ⟨?_,?_⟩
  · have e1 : (d'.extract 0 d.size).toList = d'.toList:=by rw [← h1];simp
    have e2 : (d.extract 0 d.size).toList = d.toList:=by simp
    rwa [e1,e2] at h3
  rw [List.pairwise_iff_getElem]
  intro i j hi hj hij
  have:=hs i j (Nat.zero_le _) hij (by simpa [h1] using hj)
  simp only [Go.Sort.ltInt,decide_eq_false_iff_not] at this
  have e1 : d'[i]! = d'.toList[i]:=by simp at hi;simp [hi]
  have e2 : d'[j]! = d'.toList[j]:=by simp at hj;simp [hj]
  rw [e1,e2] at this
  omega
theorem Mp.len {P : Program} {w : World} {b : Nat} {q : IntKind} {L : List (Nat × Value)} (h : Mp w b q L) {T K E : TypeId} (hu : P.underlying T = some (.map K E)) (ty : TypeId) :
    (Builtin.len_ #[T] ty #[.map (some b)]).run P w = .ok (.int .i64 L.length) w:=by
  obtain ⟨es,c,h1,h2,_⟩:=h
  have : es.size = L.length:=by
    have:=congrArg List.length h2
    simpa using this
  simp [Builtin.len_,run_underlying hu,getObj,Sem.run_bind,Sem.run,h1,Result.andThen,this,goInt]
theorem u64_slice : Tryz.prog.underlying 164 = some (.slice 26):=by kernel_rfl
theorem u64_info : (Tryz.prog.info? 26).map (fun i=>(i.zero,i.size,i.bytes)) = some (some (.int .u64 0),1,8):=by kernel_rfl
theorem make_n {P : Program} {T e : TypeId} {z : Value} {q n : Nat} (hs : P.underlying T = some (.slice e)) (hi : (P.info? e).map (fun i=>(i.zero,i.size,i.bytes)) = some (some z,1,q)) (hb : q ≤ 1000) (hn : n ≤ 1000) (hz : z.cells = #[z]) (w : World) :
    (Instr.makeSlice T (.int .i64 0) (.int .i64 n)).run P w = .ok (.slice (some ⟨w.heap.size,0,none⟩) 0 n) (w.alloc (.cells (List.replicate n z).toArray e (0,0))):=by
  obtain ⟨i,hi,hz1,hs1,hby⟩:=info_parts hi
  have hm : n * q ≤ 1000 * 1000:=Nat.mul_le_mul hn hb
  have h3 : n * q ≤ 140737488355328:=by omega
  have h4 : (q : Int) * (n : Int) ≤ 281474976710656:=by rw [← Int.natCast_mul,Nat.mul_comm];omega
  have hr:=run_make (P:=P) w _ _ i z hs hi hz1 .i64 .i64 0 n (by omega) (by omega) (by rw [hby];first|exact h4|(simpa using h4)|omega) (by omega)
  rw [hs1,hz] at hr
  have e : madeCells #[z] (n * 1) = (List.replicate n z).toArray:=by
    have:=toList_madeCells_one z (n * 1)
    rw [Nat.mul_one] at *
    rw [← this]
  simp only [Int.toNat_natCast,Int.toNat_zero,e] at hr
  exact hr
/-- make of a row of numbers. -/
theorem makeNk {P : Program} {o : Oper} {a : Act} {K : Act → World → Prop} {Q : Exit → Act → World → Prop} {w : World} (l c : Operand) (T e : TypeId) (ho : o.op = .makeSlice T l c) {z : Value} {q n : Nat} (hs : P.underlying T = some (.slice e))
    (hi : (P.info? e).map (fun i=>(i.zero,i.size,i.bytes)) = some (some z,1,q)) (hb : q ≤ 1000) (hn : n ≤ 1000) (hz : z.cells = #[z]) (hl : a.eval l = .int .i64 0) (hc : a.eval c = .int .i64 n) (G : Nat) (hG : G = w.heap.size)
    (h : ∀ w',Blk w' G (List.replicate n z) e (0,0) → Fr [] w w' → K (a.put o.dst (.slice (some ⟨G,0,none⟩) 0 n)) w') : o.wp P a w K Q:=by
  subst hG
  have hr:=make_n hs hi hb hn hz w
  unfold Oper.wp execOp
  simp only [ho,hl,hc,Sem.run_bind,Sem.run_pure,Result.andThen_ok,hr,Oper.upon_value]
  exact h _ Blk.new (Fr.alloc Fr.refl)
theorem own_start {w : World} {g n : Nat} {e : TypeId} {z : Value} (h : Blk w g (List.replicate n z) e (0,0)) (hn : n ≤ 1000) : w.ownsRow g e 1 (.slice (some ⟨g,0,none⟩) 0 n) 0 [] :=
  ⟨by simp,.inr ⟨g,n,(List.replicate n z).toArray,rfl,Nat.le_refl _,h,Nat.zero_le _,by unfold maxLen;omega,by simp,by simp⟩⟩
theorem cast_inv {l : List Int} {done : List Nat} (h : l.Perm (done.map fun (x : Nat)=>(x : Int))) : ∃ zs : List Nat,l = zs.map (fun (x : Nat)=>(x : Int)) ∧ zs.Perm done:=by
  refine ⟨l.map Int.toNat,?_,?_⟩
  · rw [List.map_map]
    refine ((List.map_congr_left fun x hx=>?_).trans (List.map_id l)).symm
    obtain ⟨y,_,rfl⟩:=List.mem_map.1 (h.mem_iff.1 hx)
    simp
  · have:=h.map Int.toNat
    rw [List.map_map] at this
    have e : (Int.toNat ∘ fun (x : Nat)=>(x : Int)) = id:=by funext x;simp
    rwa [e,List.map_id] at this
theorem own_row {w : World} {base n : Nat} {e : TypeId} {v : Value} {xs : List Value} (h : w.ownsRow base e 1 v n xs) (hv : 0 < n ∨ ∃ g c,v = .slice (some ⟨g,0,none⟩) n c) : ∃ g c rest,v = .slice (some ⟨g,0,none⟩) n c ∧ base ≤ g ∧ Blk w g (xs ++ rest) e (0,0):=by
  rcases h.2 with ⟨rfl,h0⟩|⟨g,cap,cur,rfl,hb,hg,_,_,_,ht⟩
  · rcases hv with hv|⟨g,c,hv⟩
    · omega
    · cases hv
  · refine ⟨g,cap,cur.toList.drop (n * 1),rfl,hb,?_⟩
    have : Blk w g cur.toList e (0,0):=hg
    exact this.conv (by rw [← ht,List.take_append_drop])
def keysRel (w : World) (r bm base : Nat) (k : IntKind) (e : TypeId) (M : List (Nat × Value)) (n : Nat) (s3 : Value) (wr : World) : Prop :=
  ∃ (rem : List (Nat × Value)) (done : List Nat),rem.length = n ∧ (M.map (·.1)).Perm (done ++ rem.map (·.1)) ∧ wr.ownsRow base e 1 s3 done.length (done.map fun (x : Nat)=>Value.int k x) ∧ (∃ g c,s3 = .slice (some ⟨g,0,none⟩) done.length c ∧ g ≠ r) ∧ It wr r bm k rem ∧ Fr [] w wr
set_option maxRecDepth 1000000 in
set_option maxHeartbeats 12800000 in
theorem sortedCodes {w : World} {ix bm : Nat} {T : TypeId} {M : List (Nat × Value)} (hI : Blk w ix [.map (some bm)] T (0,0)) (hM : Mp w bm .u64 M) (hn : M.length ≤ 50) (hLen : LenC) :
    Calls Tryz.prog 290 #[.pointer (some ⟨ix,0,none⟩)] w fun e w'=>∃ g c,∃ zs : List Nat,e = .returned (.slice (some ⟨g,0,none⟩) M.length c) ∧ w.heap.size ≤ g ∧ (∀ k (h : k < zs.length),w'.cell? ⟨g,k,none⟩ = some (.int .u64 (zs[k] : Nat))) ∧
      g < w'.heap.size ∧ zs.Perm (M.map (·.1)) ∧ zs.Pairwise (· ≤ ·) ∧ Fr [] w w':=by
  have hc:=hI.cells
  have hml:=hM.len (P:=Tryz.prog) (T:=240) (K:=26) (E:=438) (by kernel_rfl)
  have hN:=Lib.hid hn
  obtain ⟨G,hG⟩ : ∃ G,G = w.heap.size:=⟨_,rfl⟩
  have HG:=Lib.hid hG
  have hIl:=hI.lt
  have hMl:=hM.lt
  clear hn hG
  go_enter Tryz.func290,Tryz.ntmps290
  go_wp2_with (first
    | ((with_reducible refine list_makeSlice (fun K hK=>?_));  refine makeNk _ _ 164 26 rfl (n:=M.length) u64_slice u64_info (by omega) (by have:=hN.out;omega) rfl rfl rfl G HG.out (fun w1 hg1 hF1=>?_);have hI1:=hF1.blk hI (by simp);have hc1:=hI1.cells;have hM1:=hM.fr hF1 (by simp);obtain ⟨ob,hrg,hIt⟩:=hM1.range (P:=Tryz.prog) (T:=240) (K:=26) (E:=438) (by kernel_rfl);have hG1:=hg1.lt;clear hc))
  have hF2 : Fr [] w1 (w1.alloc ob):=Fr.alloc Fr.refl
  have hbR : bm ≠ w1.heap.size ∧ G ≠ w1.heap.size ∧ w.heap.size ≤ w1.heap.size:=by have:=hM1.lt;have:=hF1.size;omega
  have hO0:=own_fr (own_start hg1 (by have:=hN.out;omega)) hF2 (by simp)
  clear hrg
  generalize w1.alloc ob = w2 at *
  generalize w1.heap.size = R at *
  have hF02:=hF1.trans hF2 (S:=[]) (by simp)
  go_loopg [3] M.length (fun k s3 wr=>keysRel w R bm G .u64 26 M k s3 wr)
  case atStart=>exact ⟨M,[],rfl,by simp,hO0,⟨_,_,rfl,hbR.2.1⟩,hIt,hF02⟩
  case round =>
    obtain ⟨rem,done,hk,hp,hO,⟨g3,c3,rfl,hgR⟩,hIr,hFr⟩:=hrel
    clear hO0 hIt hM1 hI1 hc1 hg1 hF1 hF2 hF02
    have hdl : done.length + rem.length = M.length:=by have:=hp.length_eq;simpa using this.symm
    rcases hIr.next (P:=Tryz.prog) 0 (Ne.symm hbR.1) with ⟨h0,hrun⟩|⟨k,v,rem',w3,hperm,hrun,hI3,hE3,hF3⟩
    · subst h0
      obtain ⟨g,c,rest,hv,hgb,hgB⟩:=own_row hO (.inr ⟨_,_,rfl⟩)
      cases hv
      have hdn : done.length = M.length:=by simpa using hdl
      have hS : (U64.row g3 rest).S (done.map fun (x : Nat)=>(x : Int)).toArray wr:=Blk.conv hgB (by first|(simp [List.map_map];done)|(simp [List.map_map];rfl))
      have hso:=U64.sortU (n:=done.length) (c:=c3) hLen hS (by simp) (by have:=hN.out;omega)
      have HK:=Lib.hid (And.intro hdn (And.intro hp hgb))
      clear hS hgB hp hdn hgb
      go_wp2_with (first
        | go_at_call 298;refine hso.mono ?_;rintro e w4 ⟨rfl,d',hS4,hF4,hp4,hs4⟩)
      go_ret
      obtain ⟨hdn,hp,hgb⟩:=HK.out
      obtain ⟨q1,q2⟩:=sorted_list (by simp) hp4 hs4
      obtain ⟨zs,hz1,hz2⟩:=cast_inv (by simpa using q1)
      refine ⟨g3,c3,zs,by first|rfl|(rw [hdn];rfl),by have:=HG.out;omega,?_,Blk.lt hS4,hz2.trans (by simpa using hp.symm),?_,hFr.trans hF4 (by intro k hk hl;simp at hk;have:=HG.out;omega)⟩
      · intro k hk
        have hk' : k < d'.size:=by have:=congrArg List.length hz1;simp at this;omega
        obtain ⟨x,hx1,hx2⟩:=U64.row_at (St.At.start hS4) rfl hk'
        rw [hx1,hx2.out]
        have e : d'[k]! = d'.toList[k]'(by simpa using hk'):=by simp [hk']
        rw [e]
        simp only [hz1,List.getElem_map]
      · rw [hz1,List.pairwise_map] at q2
        exact q2.imp fun h=>by simpa using h
    · have hl1 : rem'.length + 1 = rem.length:=by have:=hperm.length_eq;simpa using this.symm
      have her:=hE3.run (P:=Tryz.prog)
      have hO3:=own_fr hO hF3 (by simp;exact .inr (fun e=>hgR (by simpa [Value.ownBlock] using e)))
      have hbud : done.length + 1 ≤ 50:=by have:=hN.out;omega
      have HP:=Lib.hid (And.intro hp (And.intro hperm (And.intro hl1 hk)))
      clear hp hperm hl1 hk hIr
      go_wp2_with (first
        | ((with_reducible refine list_bi .append (fun K hK=>?_));  refine appOwnX _ _ 164 rfl G 26 (.int .u64 0) 1 8 u64_slice u64_info rfl (by omega) (.slice (some ⟨g3,0,none⟩) done.length c3) _ _ rfl (own_fr (S:=[]) hO3 (by exact frP) (by simp)) _ 1 _ [.int .u64 (k : Nat)] rfl (by omega) rfl (newOne (by simp)) (by intro u hu;simp at hu;subst hu;rfl) (by omega) (by omega) (by have:=hO.lt g3 rfl;have:=hF3.size;simp;omega) (fun v2 w5 hO5 hF5 hw5 hs5=>?_)))
      obtain ⟨hp,hperm,hl1,hk⟩:=HP.out
      obtain ⟨g5,c5,rfl⟩:=hs5
      go_roundg rem'.length
      case measure=>omega
      case rel =>
        have hIl3 : R < w3.heap.size:=by have:=hF3.size;have:=hI3;obtain ⟨_,_,_,_,h2,_⟩:=this;exact (Array.getElem?_eq_some_iff.1 h2).1
        have hF35 : Fr [g3] w3 w5:=Fr.trans (S:=[g3]) (by exact frP) hF5 (by simp [Value.ownBlock])
        refine ⟨rem',done ++ [k],rfl,?_,by simpa using hO5,⟨g5,c5,by simp,?_⟩,hI3.fr hF35 (by simp;exact fun e=>hgR e.symm) ?_,(hFr.trans hF3 ?_).trans hF35 ?_⟩
        · have:=hperm.map (·.1)
          refine hp.trans ?_
          rw [List.append_assoc]
          exact List.Perm.append_left _ (by simpa using this)
        · intro e
          subst e
          rcases hw5 with h|h
          · exact hgR (by simpa [Value.ownBlock] using h.symm)
          · simp [Value.ownBlock] at h;omega
        · simp
          intro e
          have h1:=hM.lt
          have h2:=own_ge hO g3 (by simp [Value.ownBlock])
          have:=HG.out
          omega
        · intro k hk hl;simp at hk;omega
        · intro k hk hl;simp at hk
          have h2:=own_ge hO g3 (by simp [Value.ownBlock])
          have:=HG.out
          omega
end Go.Proofs.Wx

namespace Go.Proofs.Wx
open Go Go.RowKit
def swV (n cnt ib : Nat) : Value:=.agg #[.int .u32 (n + 8 : Nat),.int .u64 cnt,.slice (some ⟨ib,0,none⟩) ((n + 8) * cnt) ((n + 8) * cnt)]
/-- The map bm holds the buckets of these entries, by their widths. All of it lies in blocks of D. -/
structure Grp (w : World) (bm : Nat) (D : Nat → Prop) (l : List Itm) (ks : List Nat) (ib : Nat → Nat) : Prop where
  map : Mp w bm .u32 (ks.map fun n=>(n + 8,swV n (ofW l n).length (ib n)))
  mapB : D bm
  nodup : ks.Nodup
  mem : ∀ n,n ∈ ks ↔ n ∈ l.map fun e=>e.1.dig.length
  rows : ∀ n ∈ ks,Bs w (ib n) 0 (rowsB (sortD (ofW l n))) ∧ D (ib n)
theorem Grp.fr {w w' : World} {bm : Nat} {D : Nat → Prop} {l : List Itm} {ks : List Nat} {ib : Nat → Nat} {S : List Nat} (h : Grp w bm D l ks ib) (hf : Fr S w w') (hS : ∀ k ∈ S,¬ D k) : Grp w' bm D l ks ib :=
  ⟨h.map.fr hf (fun hm=>hS _ hm h.mapB),h.mapB,h.nodup,h.mem,fun n hn=>by
    obtain ⟨h1,h2⟩:=h.rows n hn
    exact ⟨h1.fr hf (fun hm=>hS _ hm h2),h2⟩⟩
theorem Grp.mono {w : World} {bm : Nat} {D D' : Nat → Prop} {l : List Itm} {ks : List Nat} {ib : Nat → Nat} (h : Grp w bm D l ks ib) (hd : ∀ b,b < w.heap.size → D b → D' b) : Grp w bm D' l ks ib :=
  ⟨h.map,hd _ h.map.lt h.mapB,h.nodup,h.mem,fun n hn=>by obtain ⟨h1,h2⟩:=h.rows n hn;exact ⟨h1,hd _ h1.lt h2⟩⟩
/-- The blocks X, and what was laid from w to w'. -/
def Nw (w w' : World) (X : List Nat) (b : Nat) : Prop:=b ∈ X ∨ (w.heap.size ≤ b ∧ b < w'.heap.size)
/-- The blocks from lo on, below hi. -/
def Rg (lo hi b : Nat) : Prop:=lo ≤ b ∧ b < hi
theorem look_sw {l : List Itm} {ib : Nat → Nat} {n : Nat} : ∀ {ks : List Nat},n ∈ ks → (ks.map fun n=>(n + 8,swV n (ofW l n).length (ib n))).lookup (n + 8) = some (swV n (ofW l n).length (ib n))
  | k :: ks,h=>by
    rw [List.map_cons,List.lookup_cons]
    by_cases e : n = k
    · subst e;simp
    · have : (n + 8 == k + 8) = false:=by simp;omega
      rw [this]
      rcases List.mem_cons.1 h with h|h
      · exact absurd h e
      · exact look_sw h
theorem asc_of {zs : List Nat} (h : zs.Pairwise (· ≤ ·)) (hn : zs.Nodup) : zs.Pairwise (· < ·):=by
  refine (h.and hn).imp fun h=>?_
  obtain ⟨h1,h2⟩:=h
  omega
theorem Grp.widths {w : World} {bm : Nat} {D : Nat → Prop} {l : List Itm} {ks : List Nat} {ib : Nat → Nat} (h : Grp w bm D l ks ib) {zs : List Nat} (hp : zs.Perm (ks.map (· + 8))) (hs : zs.Pairwise (· ≤ ·)) : zs = (widthsOf l).map (· + 8):=by
  have hnd : zs.Nodup:=(hp.nodup_iff).2 (by have:=h.nodup;unfold List.Nodup at *;rw [List.pairwise_map];exact this.imp fun h=>by omega)
  refine asc_unique (asc_of hs hnd) ?_ fun x=>?_
  · rw [List.pairwise_map]
    exact (ascOf_asc _).imp fun h=>by simpa using h
  · rw [hp.mem_iff]
    simp only [List.mem_map]
    constructor
    · rintro ⟨n,hn,rfl⟩
      exact ⟨n,(mem_ascOf _ _).2 ((h.mem n).1 hn),rfl⟩
    · rintro ⟨n,hn,rfl⟩
      exact ⟨n,(h.mem n).2 ((mem_ascOf _ _).1 hn),rfl⟩
theorem insN_length (x : Nat) : ∀ l,(insN x l).length ≤ l.length + 1
  | []=>by simp [insN]
  | y :: l=>by
    have:=insN_length x l
    unfold insN
    split
    · simp
    · split <;> simp <;> omega
theorem ascOf_length : ∀ l : List Nat,(ascOf l).length ≤ l.length
  | []=>by simp [ascOf]
  | x :: l=>by
    have h1:=ascOf_length l
    have h2:=insN_length x (ascOf l)
    show (insN x (ascOf l)).length ≤ _
    simp;omega
theorem widths_length {w : World} {bm : Nat} {D : Nat → Prop} {l : List Itm} {ks : List Nat} {ib : Nat → Nat} (h : Grp w bm D l ks ib) : (widthsOf l).length = ks.length ∧ ks.length ≤ l.length:=by
  have hp : (widthsOf l).Perm ks:=by
    refine (List.perm_ext_iff_of_nodup ((ascOf_asc _).imp fun h=>by omega) h.nodup).2 fun x=>?_
    rw [h.mem];exact mem_ascOf _ _
  refine ⟨hp.length_eq,?_⟩
  rw [← hp.length_eq]
  have:=ascOf_length (l.map fun e=>e.1.dig.length)
  unfold widthsOf
  simpa using this
theorem bucketB_eq (l : List Itm) (n : Nat) : bucketB l n = Lib.leBytes 4 (n + 8) ++ (Lib.leBytes 8 ((n + 8) * (ofW l n).length) ++ rowsB (sortD (ofW l n))):=rfl
theorem rows_len {l : List Itm} {n : Nat} : (rowsB (sortD (ofW l n))).length = (n + 8) * (ofW l n).length:=by
  rw [rowsB_length fun e he=>ofW_len ((sortD_perm _).mem_iff.1 he),(sortD_perm _).length_eq]
theorem sw_zero (w : World) : (zeroValue 457).run Tryz.prog w = .ok (.agg #[.int .u32 0,.int .u64 0,.slice none 0 0]) w:=by kernel_rfl
theorem u32_slice : Tryz.prog.underlying 467 = some (.slice 211):=by kernel_rfl
theorem u32_info : (Tryz.prog.info? 211).map (fun i=>(i.zero,i.size,i.bytes)) = some (some (.int .u32 0),1,4):=by kernel_rfl
theorem bucket_length {l : List Itm} {n : Nat} (hl : l.length ≤ 50) (hn : n ≤ 200) : (bucketB l n).length ≤ 10412:=by
  have h1:=@rows_len l n
  have h2 : (ofW l n).length ≤ 50:=Nat.le_trans (List.length_filter_le _ _) hl
  have h3 : (n + 8) * (ofW l n).length ≤ 208 * 50:=Nat.mul_le_mul (by omega) h2
  rw [bucketB_eq]
  simp [Lib.leBytes_length,h1];omega
theorem buckets_length {l : List Itm} (hl : l.length ≤ 50) : ∀ {ws : List Nat},(∀ n ∈ ws,n ≤ 200) → (ws.flatMap (bucketB l)).length ≤ 10412 * ws.length
  | [],_=>by simp
  | n :: ws,h=>by
    have h1:=bucket_length hl (h n (by simp))
    have h2:=buckets_length hl (ws:=ws) fun x hx=>h x (by simp [hx])
    simp at *;omega
end Go.Proofs.Wx

namespace Go.Proofs.Wx
open Go Go.RowKit
theorem ofC_length (l : List Itm) (c : Nat) : (ofC l c).length ≤ l.length:=List.length_filter_le _ _
/-- The whole index. -/
structure Ixs (w : World) (ix bm : Nat) (D : Nat → Prop) (l : List Itm) (cs : List Nat) (cb bc : Nat → Nat) (ks : Nat → List Nat) (ib : Nat → Nat → Nat) : Prop where
  top : ∃ T,Blk w ix [.map (some bm)] T (0,0)
  topB : D ix
  map : Mp w bm .u64 (cs.map fun c=>(c,.pointer (some ⟨cb c,0,none⟩)))
  mapB : D bm
  nodup : cs.Nodup
  mem : ∀ c,c ∈ cs ↔ c ∈ l.map fun e=>e.1.code
  code : ∀ c ∈ cs,Blk w (cb c) [.map (some (bc c)),.int .u64 c] 441 (0,0) ∧ D (cb c) ∧ Grp w (bc c) D (ofC l c) (ks c) (ib c)
theorem Ixs.fr {w w' : World} {ix bm : Nat} {D : Nat → Prop} {l : List Itm} {cs : List Nat} {cb bc : Nat → Nat} {ks : Nat → List Nat} {ib : Nat → Nat → Nat} {S : List Nat} (h : Ixs w ix bm D l cs cb bc ks ib) (hf : Fr S w w') (hS : ∀ k ∈ S,¬ D k) : Ixs w' ix bm D l cs cb bc ks ib:=by
  have hn : ∀ b,D b → b ∉ S:=fun b hb hm=>hS _ hm hb
  refine ⟨?_,h.topB,h.map.fr hf (hn _ h.mapB),h.mapB,h.nodup,h.mem,fun c hc=>?_⟩
  · obtain ⟨T,hT⟩:=h.top;exact ⟨T,hf.blk hT (hn _ h.topB)⟩
  · obtain ⟨h1,h2,h3⟩:=h.code c hc
    exact ⟨hf.blk h1 (hn _ h2),h2,h3.fr hf hS⟩
theorem Ixs.mono {w : World} {ix bm : Nat} {D D' : Nat → Prop} {l : List Itm} {cs : List Nat} {cb bc : Nat → Nat} {ks : Nat → List Nat} {ib : Nat → Nat → Nat} (h : Ixs w ix bm D l cs cb bc ks ib) (hd : ∀ b,b < w.heap.size → D b → D' b) : Ixs w ix bm D' l cs cb bc ks ib:=by
  refine ⟨h.top,?_,h.map,hd _ h.map.lt h.mapB,h.nodup,h.mem,fun c hc=>?_⟩
  · obtain ⟨T,hT⟩:=h.top;exact hd _ hT.lt h.topB
  · obtain ⟨h1,h2,h3⟩:=h.code c hc
    exact ⟨h1,hd _ h1.lt h2,h3.mono hd⟩
theorem Ixs.codes {w : World} {ix bm : Nat} {D : Nat → Prop} {l : List Itm} {cs : List Nat} {cb bc : Nat → Nat} {ks : Nat → List Nat} {ib : Nat → Nat → Nat} (h : Ixs w ix bm D l cs cb bc ks ib) {zs : List Nat} (hp : zs.Perm cs) (hs : zs.Pairwise (· ≤ ·)) : zs = codesOf l:=by
  have hnd : zs.Nodup:=(hp.nodup_iff).2 h.nodup
  refine asc_unique (asc_of hs hnd) (ascOf_asc _) fun x=>?_
  rw [hp.mem_iff,h.mem]
  exact (mem_ascOf _ _).symm
theorem codes_length {w : World} {ix bm : Nat} {D : Nat → Prop} {l : List Itm} {cs : List Nat} {cb bc : Nat → Nat} {ks : Nat → List Nat} {ib : Nat → Nat → Nat} (h : Ixs w ix bm D l cs cb bc ks ib) : (codesOf l).length = cs.length ∧ cs.length ≤ l.length:=by
  have hp : (codesOf l).Perm cs:=by
    refine (List.perm_ext_iff_of_nodup ((ascOf_asc _).imp fun h=>by omega) h.nodup).2 fun x=>?_
    rw [h.mem];exact mem_ascOf _ _
  refine ⟨hp.length_eq,?_⟩
  rw [← hp.length_eq]
  have:=ascOf_length (l.map fun e=>e.1.code)
  unfold codesOf
  simpa using this
theorem look_cb {cb : Nat → Nat} {n : Nat} : ∀ {cs : List Nat},n ∈ cs → (cs.map fun c=>(c,Value.pointer (some ⟨cb c,0,none⟩))).lookup n = some (Value.pointer (some ⟨cb n,0,none⟩))
  | k :: ks,h=>by
    rw [List.map_cons,List.lookup_cons]
    by_cases e : n = k
    · subst e;simp
    · have : (n == k) = false:=by simpa using e
      rw [this]
      rcases List.mem_cons.1 h with h|h
      · exact absurd h e
      · exact look_cb h
theorem ptr_zero (w : World) : (zeroValue 438).run Tryz.prog w = .ok (.pointer none) w:=by kernel_rfl
end Go.Proofs.Wx
