import Derived.Test.YtdokbceiganhdaaGreatDoorM1
import Derived.Test.YtdokbceiganhdaaGreatDoorM2
import Derived.Test.YtdokbceiganhdaaGreatDoorM7
import Derived.Test.YtdokbceiganhdaaGreatDoorM12
import Derived.Test.YtdokbceiganhdaaGreatDoorM13
import Derived.Test.YtdokbceiganhdaaGreatDoorM23
import Derived.Test.YtdokbceiganhdaaGreatDoorM30
import Derived.Lib.Bytealg
import Derived.Lib.BytesEntry
import Derived.Laws.Externs
import Derived.Sort.LotA
set_option maxRecDepth 100000
set_option maxHeartbeats 1000000
set_option linter.unusedVariables false
set_option linter.unusedSimpArgs false
set_option linter.deprecated false
set_option linter.all false
set_option linter.unusedSectionVars false
namespace Go.Proofs.Wx
open Go Go.RowKit
def upd {α : Type} (f : Nat → α) (n : Nat) (v : α) : Nat → α:=fun m=>if m = n then v else f m
theorem upd_same {α : Type} {f : Nat → α} {n : Nat} {v : α} : upd f n v n = v:=by simp [upd]
theorem upd_ne {α : Type} {f : Nat → α} {n m : Nat} {v : α} (h : m ≠ n) : upd f n v m = f m:=by simp [upd,h]
/-- mapUpdate. -/
theorem putStep {o : Oper} {a : Act} {K : Act → World → Prop} {Q : Exit → Act → World → Prop} {w : World} (m k v : Operand) (T : TypeId) (ho : o.op = .mapUpdate T m k v) {b n : Nat} {q : IntKind} {L : List (Nat × Value)} {x : Value} (hm : a.eval m = .map (some b)) (hk : a.eval k = .int q (n : Nat)) (hv : a.eval v = x)
    (h : Mp w b q L) {Kt E : TypeId} (hu : Tryz.prog.underlying T = some (.map Kt E)) (hkt : Tryz.prog.underlying Kt = some (.int q))
    (H : ∀ w',Fr [b] w w' → ((L.lookup n = none ∧ Mp w' b q (L ++ [(n,x)])) ∨ ∃ j v0,L[j]? = some (n,v0) ∧ L.lookup n = some v0 ∧ Mp w' b q (L.set j (n,x))) → K (a.put o.dst undef) w') : o.wp Tryz.prog a w K Q:=by
  obtain ⟨w',hr,hF,hM⟩:=h.put (P:=Tryz.prog) hu hkt n x
  unfold Oper.wp execOp
  simp only [ho,hm,hk,hv,Sem.run_bind,Sem.run_pure,Result.andThen_ok,hr]
  first|exact H w' hF hM|(simpa [Oper.upon] using H w' hF hM)
theorem look_map {f : Nat → Value} {n : Nat} : ∀ {ks : List Nat},(ks.map fun n=>(n,f n)).lookup n = if n ∈ ks then some (f n) else none
  | []=>by simp
  | k :: ks=>by
    rw [List.map_cons,List.lookup_cons]
    by_cases e : n = k
    · subst e;simp
    · rw [show (n == k) = false by simpa using e,look_map];simp [e]
theorem set_map {f : Nat → Value} {n j : Nat} {v v0 : Value} {ks : List Nat} (hd : ks.Nodup) (hj : (ks.map fun n=>(n,f n))[j]? = some (n,v0)) : (ks.map fun n=>(n,f n)).set j (n,v) = ks.map fun m=>(m,upd f n v m):=by
  refine List.ext_getElem? fun i=>?_
  rw [List.getElem?_set]
  simp only [List.getElem?_map,List.length_map]
  rw [List.getElem?_map] at hj
  obtain ⟨k0,hk0,he⟩:=Option.map_eq_some_iff.1 hj
  have hk : k0 = n:=(Prod.mk.inj he).1
  subst hk
  have hjl:=(List.getElem?_eq_some_iff.1 hk0).1
  by_cases e : j = i
  · subst e
    have e3 : ks[j] = k0:=(List.getElem?_eq_some_iff.1 hk0).2
    simp [hjl,e3,upd_same]
  · rw [if_neg e]
    cases hi : ks[i]? with
    | none=>rfl
    | some m =>
      have hne : m ≠ k0:=by
        intro e2
        subst e2
        exact e ((List.getElem?_inj hjl hd).1 (hk0.trans hi.symm))
      simp [upd_ne hne]
/-- Block M is a map from these keys to rows. -/
structure Tab (w : World) (base M : Nat) (q : IntKind) (T : TypeId) (ks : List Nat) (rv : Nat → Value) (rr : Nat → List (List Value)) : Prop where
  map : Mp w M q (ks.map fun n=>(n,rv n))
  baseM : base ≤ M
  nodup : ks.Nodup
  row : ∀ n ∈ ks,w.ownsRow base T 2 (rv n) (rr n).length (rr n).flatten
  sl : ∀ n ∈ ks,∃ g c,rv n = .slice (some ⟨g,0,none⟩) (rr n).length c ∧ g ≠ M
  dis : ∀ n ∈ ks,∀ m ∈ ks,n ≠ m → (rv n).ownBlock ≠ (rv m).ownBlock
section
variable {w w' : World} {base M : Nat} {q : IntKind} {T : TypeId} {ks : List Nat} {rv : Nat → Value} {rr : Nat → List (List Value)}
theorem Tab.fr {S : List Nat} (h : Tab w base M q T ks rv rr) (hf : Fr S w w') (hM : M ∉ S) (hS : ∀ k ∈ S,k < base ∨ ∀ n ∈ ks,(rv n).ownBlock ≠ some k) : Tab w' base M q T ks rv rr :=
  ⟨h.map.fr hf hM,h.baseM,h.nodup,fun n hn=>own_fr (h.row n hn) hf fun k hk=>(hS k hk).imp id fun h=>h n hn,h.sl,h.dis⟩
theorem Tab.ownLt (h : Tab w base M q T ks rv rr) {n : Nat} (hn : n ∈ ks) {k : Nat} (hk : (rv n).ownBlock = some k) : base ≤ k ∧ k < w.heap.size ∧ k ≠ M:=by
  obtain ⟨g,c,e,hg⟩:=h.sl n hn
  have:=(h.row n hn).lt k hk
  rw [e] at hk
  simp [Value.ownBlock] at hk
  subst hk
  exact ⟨this.1,this.2,hg⟩
theorem Tab.start (hM : Mp w M q []) (hb : base ≤ M) : Tab w base M q T [] rv rr:=⟨hM,hb,by simp,by simp,by simp,by simp⟩
/-- A new key, of an empty row. -/
theorem Tab.add {n g c : Nat} (h : Tab w base M q T ks rv rr) (hn : n ∉ ks) (hF : Fr [M] w w') (hO : w'.ownsRow base T 2 (.slice (some ⟨g,0,none⟩) 0 c) 0 []) (hg : w.heap.size ≤ g)
    (hM : Mp w' M q ((ks.map fun n=>(n,rv n)) ++ [(n,.slice (some ⟨g,0,none⟩) 0 c)])) : Tab w' base M q T (ks ++ [n]) (upd rv n (.slice (some ⟨g,0,none⟩) 0 c)) (upd rr n []):=by
  have hne : ∀ m ∈ ks,m ≠ n:=fun m hm e=>hn (e ▸ hm)
  have hMl:=h.map.lt
  refine ⟨?_,h.baseM,?_,?_,?_,?_⟩
  · refine (congrArg (Mp w' M q) ?_).mp hM
    rw [List.map_append,List.map_singleton,upd_same]
    congr 1
    exact List.map_congr_left fun m hm=>by rw [upd_ne (hne m hm)]
  · rw [List.nodup_append]
    exact ⟨h.nodup,by simp,fun a ha b hb=>by simp at hb;subst hb;exact hne a ha⟩
  · intro m hm
    rcases List.mem_append.1 hm with hm|hm
    · rw [upd_ne (hne m hm),upd_ne (hne m hm)]
      exact own_fr (h.row m hm) hF fun k hk=>.inr fun e=>by simp at hk;exact (h.ownLt hm e).2.2 hk
    · simp at hm;subst hm
      rw [upd_same,upd_same];exact hO
  · intro m hm
    rcases List.mem_append.1 hm with hm|hm
    · rw [upd_ne (hne m hm),upd_ne (hne m hm)];exact h.sl m hm
    · simp at hm;subst hm
      rw [upd_same,upd_same];exact ⟨g,c,rfl,by omega⟩
  · have hx : ∀ m ∈ ks,(rv m).ownBlock ≠ some g:=fun m hm e=>by have:=(h.ownLt hm e).2.1;omega
    intro m hm m' hm' hd
    rcases List.mem_append.1 hm with h1|h1 <;> rcases List.mem_append.1 hm' with h2|h2
    · rw [upd_ne (hne m h1),upd_ne (hne m' h2)];exact h.dis m h1 m' h2 hd
    · simp at h2;subst h2
      rw [upd_ne (hne m h1),upd_same];exact hx m h1
    · simp at h1;subst h1
      rw [upd_ne (hne m' h2),upd_same];exact fun e=>hx m' h2 e.symm
    · simp at h1 h2;omega
/-- A row, longer by an element. -/
theorem Tab.set {n g' c' j : Nat} {v0 : Value} {x : List Value} (h : Tab w base M q T ks rv rr) (hn : n ∈ ks) (hF : Fr (M :: (rv n).ownBlock.toList) w w') (hO : w'.ownsRow base T 2 (.slice (some ⟨g',0,none⟩) ((rr n).length + 1) c') ((rr n).length + 1) ((rr n).flatten ++ x))
    (hg : (rv n).ownBlock = some g' ∨ w.heap.size ≤ g') (hM : Mp w' M q ((ks.map fun n=>(n,rv n)).set j (n,.slice (some ⟨g',0,none⟩) ((rr n).length + 1) c'))) (hj : (ks.map fun n=>(n,rv n))[j]? = some (n,v0)) :
    Tab w' base M q T ks (upd rv n (.slice (some ⟨g',0,none⟩) ((rr n).length + 1) c')) (upd rr n (rr n ++ [x])):=by
  have hMl:=h.map.lt
  have hgM : g' ≠ M:=by
    rcases hg with hg|hg
    · exact (h.ownLt hn hg).2.2
    · omega
  have hx : ∀ m ∈ ks,m ≠ n → (rv m).ownBlock ≠ some g':=fun m hm hd e=>by
    rcases hg with hg|hg
    · exact h.dis m hm n hn hd (by rw [e,hg])
    · have:=(h.ownLt hm e).2.1;omega
  refine ⟨?_,h.baseM,h.nodup,?_,?_,?_⟩
  · rw [set_map h.nodup hj] at hM;exact hM
  · intro m hm
    by_cases e : m = n
    · subst e;rw [upd_same,upd_same];simpa using hO
    · rw [upd_ne e,upd_ne e]
      refine own_fr (h.row m hm) hF fun k hk=>.inr fun e2=>?_
      rcases List.mem_cons.1 hk with rfl|hk
      · exact (h.ownLt hm e2).2.2 rfl
      · exact h.dis m hm n hn e (by rw [e2];simpa using (by simpa using hk : (rv n).ownBlock = some k).symm)
  · intro m hm
    by_cases e : m = n
    · subst e;rw [upd_same,upd_same];exact ⟨g',c',by simp,hgM⟩
    · rw [upd_ne e,upd_ne e];exact h.sl m hm
  · intro m hm m' hm' hd
    by_cases e : m = n
    · subst e
      rw [upd_same,upd_ne (Ne.symm hd)];exact fun e=>hx m' hm' (Ne.symm hd) e.symm
    · by_cases e' : m' = n
      · subst e';rw [upd_same,upd_ne e];exact hx m hm e
      · rw [upd_ne e,upd_ne e'];exact h.dis m hm m' hm' hd
end
end Go.Proofs.Wx

namespace Go.Proofs.Wx
open Go Go.RowKit Go.Sort
variable {α : Type} [Inhabited α] {s : St α} {ra : Addr} {rm rc n : Nat} {lt : α → α → Bool}
set_option maxRecDepth 1000000 in
set_option maxHeartbeats 12800000 in
theorem sortI {w : World} {d : Array α} (D : IfS ra rm rc s lt n) (hO : SWO lt) (hLen : LenC) (hS : s.S d w) (hn : d.size = n)
    (hlen : Calls Tryz.prog 428 #[.slice (some ra) rm rc] w fun e w'=>e = .returned (.int .i64 n) ∧ Fr [] w w') :
    Calls Tryz.prog 295 #[.iface 454 (.slice (some ra) rm rc)] w fun e w'=>e = .returned (.tuple #[]) ∧ ∃ d',s.S d' w' ∧ Fr s.own w w' ∧ PermIn 0 n d d' ∧ SortedIn lt 0 n d':=by
  have big:=D.big
  have wr : IntKind.u64.wrap (n : Int) = n:=by simp [IntKind.wrap,IntKind.bits,IntKind.signed];omega
  have hA:=St.At.start hS
  by_cases h1 : n ≤ 1
  · have h1z : (n : Int) ≤ 1:=by omega
    go_enter Tryz.func295,Tryz.ntmps295
    go_wp2_with (first|(go_at_call 428;refine hlen.mono ?_;rintro e w1 ⟨rfl,hF1⟩))
    (try simp only [Exit.inBlock,Exit.then]);refine bodyPost_ret (results_none rfl _ _ _) rfl ?_
    refine ⟨rfl,d,s.fr hS hF1 (by simp),hF1.mono (by simp),⟨rfl,fun _ _=>rfl,List.Perm.refl _⟩,fun i j _ hij hj=>by omega⟩
  · have h1z : ¬ (n : Int) ≤ 1:=by omega
    have hlim : bitsLen n < 4611686018427387904:=Nat.lt_of_le_of_lt ((bitsLen_le_iff n 62).2 (by omega)) (by omega)
    have hp : ∀ w1,s.At w d w1 → Calls Tryz.prog 305 #[.iface 454 (.slice (some ra) rm rc),.int .i64 0,.int .i64 n,.int .i64 (bitsLen n : Nat)] w1 fun e w'=>e = .returned (.tuple #[]) ∧ s.At w (pdq lt d 0 n (bitsLen n) true true) w':=fun w1 h =>
      pdqI D hO hLen (n + 1) 0 n (bitsLen n) d w1 (by omega) h hn (Nat.zero_le _) (Nat.le_refl _) hlim (Or.inl rfl)
    have hb:=fun w=>hLen n w big
    go_enter Tryz.func295,Tryz.ntmps295
    go_wp2_with (first
      | (go_at_call 428;refine hlen.mono ?_;rintro e w1 ⟨rfl,hF1⟩;have hA1:=hA.same hF1)
      | (go_at_call 143;refine (hb _).mono ?_;rintro e w2 ⟨rfl,rfl⟩)
      | (go_at_call 305;refine (hp _ (by exact atP)).mono ?_;rintro e w3 ⟨rfl,hA3⟩))
    go_end0
    obtain ⟨p1,p2⟩:=pdq_sorts lt hO d 0 n (bitsLen n) true true (Nat.zero_le _) (by omega) (Or.inl rfl)
    exact ⟨rfl,_,hA3.1,hA3.2,p1,p2⟩
end Go.Proofs.Wx

namespace Go.Proofs.Wx
open Go Go.RowKit
theorem compare_lt : ∀ (a b : List UInt8),(Lib.compareBytes a b < 0 ↔ a < b)
  | [],[]=>by simp [Lib.compareBytes]
  | [],_ :: _=>by simp [Lib.compareBytes]
  | _ :: _,[]=>by simp [Lib.compareBytes]
  | x :: a,y :: b=>by
    unfold Lib.compareBytes
    rw [List.cons_lt_cons_iff]
    by_cases h : x < y
    · simp [h]
    · by_cases h2 : y < x
      · have : x ≠ y:=fun e=>by subst e;exact h h2
        simp [h,h2,this]
      · have : x = y:=UInt8.le_antisymm (UInt8.not_lt.1 h2) (UInt8.not_lt.1 h)
        subst this
        simp [compare_lt a b]
theorem load_bs {w : World} {b o : Nat} {x : List UInt8} (hx : Bs w b o x) : (Extern.Bytes.loadBytes ⟨b,o,none⟩ x.length .empty).run Tryz.prog w = .ok ⟨x.toArray⟩ w:=by
  have h:=Lib.run_loadBytesX (P:=Tryz.prog) w (x.map fun u=>(u.toNat : Int)) ⟨b,o,none⟩ .empty (fun j u hu=>by
    rw [List.getElem?_map] at hu
    obtain ⟨v,hv,rfl⟩:=Option.map_eq_some_iff.1 hu
    obtain ⟨hj,rfl⟩:=List.getElem?_eq_some_iff.1 hv
    rw [Addr.add_lit];exact hx.cell j hj)
  rw [List.length_map] at h
  rw [h]
  have e : Lib.bytesOf (x.map fun u=>(u.toNat : Int)) = x:=by
    unfold Lib.bytesOf
    rw [List.map_map]
    exact (List.map_congr_left fun u _=>by simp).trans (List.map_id x)
  rw [e]
  congr 1
  apply ByteArray.ext
  simp
theorem run_cmp {w : World} {b1 o1 c1 b2 o2 c2 : Nat} {x y : List UInt8} (hx : Bs w b1 o1 x) (hy : Bs w b2 o2 y) :
    (Extern.BytealgCompare.compare #[.slice (some ⟨b1,o1,none⟩) x.length c1,.slice (some ⟨b2,o2,none⟩) y.length c2]).run Tryz.prog w = .ok (.int .i64 (Lib.compareBytes x y)) w:=by
  change Sem.run Tryz.prog (do pure (goInt (Extern.BytealgCompare.cmp (← Extern.Bytes.loadBytes ⟨b1,o1,none⟩ x.length .empty) (← Extern.Bytes.loadBytes ⟨b2,o2,none⟩ y.length .empty)))) w = _
  simp only [Sem.run_bind,Sem.run_pure,Result.andThen,load_bs hx,load_bs hy]
  rw [Lib.cmp_eq]
  rfl
theorem bytesCompare {w : World} {b1 o1 c1 b2 o2 c2 : Nat} {x y : List UInt8} (hx : Bs w b1 o1 x) (hy : Bs w b2 o2 y) :
    Calls Tryz.prog 431 #[.slice (some ⟨b1,o1,none⟩) x.length c1,.slice (some ⟨b2,o2,none⟩) y.length c2] w fun e w'=>e = .returned (.int .i64 (Lib.compareBytes x y)) ∧ w' = w:=by
  have hr:=run_cmp (c1:=c1) (c2:=c2) hx hy
  go_enter Tryz.func431,Tryz.ntmps431
  go_wp2
  rw [run_callFunc_extern (P:=Tryz.prog) (f:=432) (fn:=Tryz.f432) (e:=Extern.BytealgCompare.compare) (by kernel_rfl) (by kernel_rfl) (by kernel_rfl) (by kernel_rfl) (by kernel_rfl),hr]
  simp only [Result.andThen]
  rw [Oper.upon_value]
  go_wp2
  go_ret
  exact ⟨rfl,rfl⟩
end Go.Proofs.Wx

namespace Go.Proofs.Wx
open Go Go.RowKit Go.Sort
structure DRec where
  b : Nat
  o : Nat
  c : Nat
  off : Nat
  dig : List UInt8
deriving Inhabited
def DRec.sl (x : DRec) : Value:=.slice (some ⟨x.b,x.o,none⟩) x.dig.length x.c
def DRec.enc (x : DRec) : List Value:=[x.sl,.int .u64 x.off]
def dltR (x y : DRec) : Bool:=decide (x.dig < y.dig)
theorem swo_dltR : SWO dltR where
  irrefl x:=by simp [dltR,List.lt_irrefl]
  trans x y z h1 h2:=by simp only [dltR,decide_eq_true_eq] at *;exact List.lt_trans h1 h2
  ntrans x y z h1 h2:=by
    simp only [dltR,decide_eq_false_iff_not,List.not_lt] at *
    exact List.le_trans h2 h1
def encs (l : List DRec) : List Value:=l.flatMap DRec.enc
theorem encs_get : ∀ {l : List DRec} {i : Nat} {x : DRec},l[i]? = some x → (encs l)[i * 2]? = some x.sl ∧ (encs l)[i * 2 + 1]? = some (.int .u64 x.off)
  | y :: l,0,x,h=>by simp at h;subst h;simp [encs,DRec.enc]
  | y :: l,i + 1,x,h=>by
    have:=encs_get (l:=l) (i:=i) (x:=x) (by simpa using h)
    have e : (i + 1) * 2 = i * 2 + 1 + 1:=by omega
    rw [e]
    simpa [encs,DRec.enc] using this
theorem encs_length (l : List DRec) : (encs l).length = l.length * 2:=by
  induction l with
  | nil=>rfl
  | cons x l ih=>simp [encs,DRec.enc] at *;omega
theorem encs_set : ∀ (l : List DRec) (i : Nat) (y : DRec),i < l.length → encs (l.set i y) = ((encs l).set (i * 2) y.sl).set (i * 2 + 1) (.int .u64 y.off)
  | x :: l,0,y,_=>by simp [encs,DRec.enc]
  | x :: l,i + 1,y,h=>by
    have:=encs_set l i y (by simpa using h)
    have e : (i + 1) * 2 = i * 2 + 1 + 1:=by omega
    rw [e]
    simp only [List.set_cons_succ]
    show DRec.enc x ++ encs (l.set i y) = _
    rw [this]
    simp [encs,DRec.enc]
/-- The rows at block g; their digests lie in the blocks D. -/
def recSt (g : Nat) (D : List Nat) (rest : List Value) : St DRec where
  S d w:=Blk w g (encs d.toList ++ rest) 452 (0,0) ∧ (∀ x ∈ d.toList,Bs w x.b x.o x.dig ∧ x.b ∈ D) ∧ g ∉ D ∧ ∀ k ∈ D,k < w.heap.size
  own:=g :: D
  fr:=fun ⟨h1,h2,h3,h4⟩ hf hX=>⟨hf.blk h1 (fun hm=>hX _ hm (by simp)),fun x hx=>⟨(h2 x hx).1.fr hf (fun hm=>hX _ hm (by simp [(h2 x hx).2])),(h2 x hx).2⟩,h3,fun k hk=>Nat.lt_of_lt_of_le (h4 k hk) hf.size⟩
  lt:=fun ⟨h1,_,_,h4⟩ k hk=>by
    rcases List.mem_cons.1 hk with rfl|hk
    · exact h1.lt
    · exact h4 k hk
theorem recLess {g n c i j : Nat} {D : List Nat} {rest : List Value} {d : Array DRec} {w : World} (hS : (recSt g D rest).S d w) (hn : d.size = n) (hi : i < n) (hj : j < n) (big : n < 1000000) :
    Calls Tryz.prog 429 #[.slice (some ⟨g,0,none⟩) n c,.int .i64 i,.int .i64 j] w fun e w'=>e = .returned (.bool (dltR d[i]! d[j]!)) ∧ Fr [] w w':=by
  obtain ⟨hB,hD,hgD,_⟩:=hS
  obtain ⟨x,hx⟩ : ∃ x,x = d[i]!:=⟨_,rfl⟩
  obtain ⟨y,hy⟩ : ∃ y,y = d[j]!:=⟨_,rfl⟩
  have gx : d.toList[i]? = some x:=by rw [hx];have : i < d.size:=(by omega);simp [this]
  have gy : d.toList[j]? = some y:=by rw [hy];have : j < d.size:=(by omega);simp [this]
  rw [← hx,← hy]
  have cx : w.cell? ⟨g,i * 2,none⟩ = some (.slice (some ⟨x.b,x.o,none⟩) x.dig.length x.c):=by
    rw [hB.cell,List.getElem?_append_left (by rw [encs_length];simp;omega)];exact (encs_get gx).1
  have cy : w.cell? ⟨g,j * 2,none⟩ = some (.slice (some ⟨y.b,y.o,none⟩) y.dig.length y.c):=by
    rw [hB.cell,List.getElem?_append_left (by rw [encs_length];simp;omega)];exact (encs_get gy).1
  have bx:=(hD x (List.mem_of_getElem? gx)).1
  have by':=(hD y (List.mem_of_getElem? gy)).1
  have hcm:=fun w1 (h1 : Bs w1 x.b x.o x.dig) (h2 : Bs w1 y.b y.o y.dig)=>bytesCompare (c1:=x.c) (c2:=y.c) h1 h2
  have HC:=Lib.hid (compare_lt x.dig y.dig)
  clear hx hy gx gy hB hD
  generalize Lib.compareBytes x.dig y.dig = z at *
  go_enter Tryz.func429,Tryz.ntmps429
  go_wp2_with (first
    | go_at_call 431;(with_reducible refine (hcm _ (by first|exact bx|exact bx.drew) (by first|exact by'|exact by'.drew)).mono ?_);rintro e w2 ⟨rfl,rfl⟩
    | (refine wre 1 [(0,.free),(1,.free),(2,.free),(3,.free),(4,.look),(5,.free),(6,.free),(7,.free),(8,.free),(9,.look),(10,.act),(11,.free),(12,.free)] ?_)
    | (with_reducible refine wEI ?_;(first|(refine wEN ?_;skip)|(refine wEF rfl (fun K hK=>?_);go_simp)|(refine wEL rfl rfl (fun K hK=>?_);go_simp)|(refine wER rfl (fun K hK=>?_);go_simp)|(refine wEM rfl (fun K hK=>?_);go_simp;try refine ⟨_,_,⟨rfl,rfl⟩,?_⟩)|(refine wEG rfl (fun K hK=>?_);go_simp)|(refine wEA rfl (fun K hK=>?_);go_simp))))
  go_ret
  refine ⟨?_,by exact frP⟩
  have : decide (z < 0) = dltR x y:=by unfold dltR;exact decide_eq_decide.2 HC.out
  rw [← this];rfl
theorem encs_swp {d : Array DRec} {i j : Nat} (hi : i < d.size) (hj : j < d.size) : encs (swp d i j).toList = (((((encs d.toList).set (i * 2) d[j]!.sl).set (i * 2 + 1) (.int .u64 d[j]!.off)).set (j * 2) d[i]!.sl).set (j * 2 + 1) (.int .u64 d[i]!.off)):=by
  unfold swp
  rw [Array.toList_setIfInBounds,encs_set _ _ _ (by simp;omega),Array.toList_setIfInBounds,encs_set _ _ _ (by simpa using hi)]
theorem recSwap {g n c i j : Nat} {D : List Nat} {rest : List Value} {d : Array DRec} {w : World} (hS : (recSt g D rest).S d w) (hn : d.size = n) (hi : i < n) (hj : j < n) :
    Calls Tryz.prog 430 #[.slice (some ⟨g,0,none⟩) n c,.int .i64 i,.int .i64 j] w fun e w'=>e = .returned (.tuple #[]) ∧ (recSt g D rest).S (swp d i j) w' ∧ Fr (recSt g D rest).own w w':=by
  obtain ⟨hB,hD,hgD,hDl⟩:=hS
  obtain ⟨x,hx⟩ : ∃ x,x = d[i]!:=⟨_,rfl⟩
  obtain ⟨y,hy⟩ : ∃ y,y = d[j]!:=⟨_,rfl⟩
  have gx : d.toList[i]? = some x:=by rw [hx];have : i < d.size:=(by omega);simp [this]
  have gy : d.toList[j]? = some y:=by rw [hy];have : j < d.size:=(by omega);simp [this]
  have cx : w.cell? ⟨g,i * 2,none⟩ = some (.slice (some ⟨x.b,x.o,none⟩) x.dig.length x.c):=by
    rw [hB.cell,List.getElem?_append_left (by rw [encs_length];simp;omega)];exact (encs_get gx).1
  have cy : w.cell? ⟨g,j * 2,none⟩ = some (.slice (some ⟨y.b,y.o,none⟩) y.dig.length y.c):=by
    rw [hB.cell,List.getElem?_append_left (by rw [encs_length];simp;omega)];exact (encs_get gy).1
  have cx2 : w.cell? ⟨g,i * 2 + 1,none⟩ = some (.int .u64 x.off):=by
    rw [hB.cell,List.getElem?_append_left (by rw [encs_length];simp;omega)];exact (encs_get gx).2
  have cy2 : w.cell? ⟨g,j * 2 + 1,none⟩ = some (.int .u64 y.off):=by
    rw [hB.cell,List.getElem?_append_left (by rw [encs_length];simp;omega)];exact (encs_get gy).2
  have hf:=hB.free
  have hX:=Lib.hid (And.intro hx (And.intro hy (And.intro hB hD)))
  clear hx hy gx gy hB hD
  go_enter Tryz.func430,Tryz.ntmps430
  obtain ⟨v1,cw1⟩:=cell?_setCell_some (w:=w) (p:=⟨g,i * 2,none⟩) (x:=.slice (some ⟨y.b,y.o,none⟩) y.dig.length y.c) (q:=⟨g,j * 2,none⟩) cy
  obtain ⟨v2',cw2'⟩:=cell?_setCell_some (w:=w) (p:=⟨g,i * 2,none⟩) (x:=.slice (some ⟨y.b,y.o,none⟩) y.dig.length y.c) (q:=⟨g,j * 2 + 1,none⟩) cy2
  obtain ⟨v2,cw2⟩:=cell?_setCell_some (w:=w.setCell ⟨g,i * 2,none⟩ (.slice (some ⟨y.b,y.o,none⟩) y.dig.length y.c)) (p:=⟨g,i * 2 + 1,none⟩) (x:=.int .u64 y.off) (q:=⟨g,j * 2 + 1,none⟩) cw2'
  clear cw2'
  go_wp2_with (first
    | (refine wre 0 [(0,.free),(1,.free),(2,.free),(3,.free),(4,.free),(5,.free),(6,.free),(7,.look),(8,.free),(9,.free),(10,.free),(11,.look),(12,.free),(13,.act),(14,.free),(15,.act)] ?_)
    | (with_reducible refine wEI ?_;(first|(refine wEN ?_;skip)|(refine wEF rfl (fun K hK=>?_);go_simp)|(refine wEL rfl rfl (fun K hK=>?_);go_simp)|(refine wER rfl (fun K hK=>?_);go_simp)|(refine wEM rfl (fun K hK=>?_);go_simp;try refine ⟨_,_,⟨rfl,rfl⟩,?_⟩)|(refine wEG rfl (fun K hK=>?_);go_simp)|(refine wEA rfl (fun K hK=>?_);go_simp))))
  go_end0
  obtain ⟨hx,hy,hB,hD⟩:=hX.out
  have h1 : Blk (((((w.setCell ⟨g,i * 2,none⟩ y.sl).setCell ⟨g,i * 2 + 1,none⟩ (.int .u64 y.off)).setCell ⟨g,j * 2,none⟩ x.sl).setCell ⟨g,j * 2 + 1,none⟩ (.int .u64 x.off))) g (encs (swp d i j).toList ++ rest) 452 (0,0):=by
    refine Blk.conv (((hB.set.set).set).set) ?_
    have l1 : (encs d.toList).length = d.size * 2:=by rw [encs_length];simp
    rw [encs_swp (by omega) (by omega),← hx,← hy,List.set_append_left _ _ (by omega),List.set_append_left _ _ (by simp;omega),List.set_append_left _ _ (by simp;omega),List.set_append_left _ _ (by simp;omega)]
  have hF : Fr [g] w (((((w.setCell ⟨g,i * 2,none⟩ y.sl).setCell ⟨g,i * 2 + 1,none⟩ (.int .u64 y.off)).setCell ⟨g,j * 2,none⟩ x.sl).setCell ⟨g,j * 2 + 1,none⟩ (.int .u64 x.off))):=by exact frP
  have hm : ∀ z ∈ (swp d i j).toList,z ∈ d.toList:=by
    intro z hz
    unfold swp at hz
    rw [Array.toList_setIfInBounds] at hz
    rcases List.mem_or_eq_of_mem_set hz with hz|rfl
    · rw [Array.toList_setIfInBounds] at hz
      rcases List.mem_or_eq_of_mem_set hz with hz|rfl
      · exact hz
      · have : j < d.size:=(by omega);simp [this]
    · have : i < d.size:=(by omega);simp [this]
  have hSf : (recSt g D rest).S (swp d i j) (((((w.setCell ⟨g,i * 2,none⟩ y.sl).setCell ⟨g,i * 2 + 1,none⟩ (.int .u64 y.off)).setCell ⟨g,j * 2,none⟩ x.sl).setCell ⟨g,j * 2 + 1,none⟩ (.int .u64 x.off))) :=
    ⟨h1,fun z hz=>⟨(hD z (hm z hz)).1.fr hF (by simp;intro e;exact hgD (e ▸ (hD z (hm z hz)).2)),(hD z (hm z hz)).2⟩,hgD,fun k hk=>Nat.lt_of_lt_of_le (hDl k hk) hF.size⟩
  refine ⟨rfl,?_,?_⟩
  · exact (recSt g D rest).fr hSf (X:=[]) (by first|exact Fr.refl|exact Fr.drew Fr.refl|exact Fr.drew (Fr.drew Fr.refl)) (by simp)
  · refine Fr.trans (S:=(recSt g D rest).own) (hF.mono (by simp [recSt])) (S':=[]) (by first|exact Fr.refl|exact Fr.drew Fr.refl|exact Fr.drew (Fr.drew Fr.refl)) (by simp)
theorem recLen {g n c : Nat} {w : World} : Calls Tryz.prog 428 #[.slice (some ⟨g,0,none⟩) n c] w fun e w'=>e = .returned (.int .i64 n) ∧ Fr [] w w':=by
  go_enter Tryz.func428,Tryz.ntmps428
  go_wp2
  go_ret
  exact ⟨rfl,by exact frP⟩
/-- sort.Sort at a recordSet. -/
theorem recSort {g n c : Nat} {D : List Nat} {rest : List Value} {d : Array DRec} {w : World} (hLen : LenC) (hS : (recSt g D rest).S d w) (hn : d.size = n) (big : n < 1000000) :
    Calls Tryz.prog 295 #[.iface 454 (.slice (some ⟨g,0,none⟩) n c)] w fun e w'=>e = .returned (.tuple #[]) ∧ ∃ d',(recSt g D rest).S d' w' ∧ Fr (g :: D) w w' ∧ PermIn 0 n d d' ∧ SortedIn dltR 0 n d' :=
  sortI (s:=recSt g D rest) (lt:=dltR) ⟨fun h1 h2 h3 h4=>recLess h1 h2 h3 h4 big,fun h1 h2 h3 h4=>recSwap h1 h2 h3 h4,by omega⟩ swo_dltR hLen hS hn recLen
theorem LenC.holds : LenC:=fun L w h=>by
  have:=Tryz.bits_Len (L : Int) w (by omega) (by omega)
  rwa [Int.toNat_natCast,bitLen_eq _ (by omega)] at this
end Go.Proofs.Wx

namespace Go.Proofs.Wx
open Go Go.RowKit
abbrev tDR : TypeId:=452
def Dg (w : World) (base M : Nat) (ks : List Nat) (rv : Nat → Value) (dr : Nat → List DRec) : Prop :=
  (∀ n ∈ ks,∀ x ∈ dr n,Bs w x.b x.o x.dig ∧ base ≤ x.b ∧ x.b ≠ M ∧ ∀ m ∈ ks,(rv m).ownBlock ≠ some x.b) ∧ ∀ n ∈ ks,∀ m ∈ ks,n ≠ m → ∀ x ∈ dr n,∀ y ∈ dr m,x.b ≠ y.b
structure L1 (w : World) (base M : Nat) (d1 : List Itm) (extra : List Nat) (ks : List Nat) (rv : Nat → Value) (dr : Nat → List DRec) : Prop where
  tab : Tab w base M .i64 tDR ks rv (fun n=>(dr n).map DRec.enc)
  mem : ∀ n,n ∈ ks ↔ (n ∈ d1.map fun e=>e.1.dig.length) ∨ n ∈ extra
  pairs : ∀ n ∈ ks,(dr n).map (fun x=>(x.dig,x.off)) = (ofW d1 n).map fun e=>(e.1.dig,e.2)
  dg : Dg w base M ks rv dr
section
variable {w w' : World} {base M : Nat} {d1 : List Itm} {extra ks : List Nat} {rv : Nat → Value} {dr : Nat → List DRec}
theorem Dg.fr {S : List Nat} (h : Dg w base M ks rv dr) (hf : Fr S w w') (hS : ∀ k ∈ S,k < base ∨ k = M ∨ ∃ m ∈ ks,(rv m).ownBlock = some k) : Dg w' base M ks rv dr:=by
  refine ⟨fun n hn x hx=>?_,h.2⟩
  obtain ⟨h1,h2,h3,h4⟩:=h.1 n hn x hx
  refine ⟨h1.fr hf fun hm=>?_,h2,h3,h4⟩
  rcases hS _ hm with h|h|⟨m,hm,h⟩
  · omega
  · exact h3 h
  · exact h4 m hm h
theorem L1.fr {S : List Nat} (h : L1 w base M d1 extra ks rv dr) (hf : Fr S w w') (hb : base ≤ w.heap.size) (hS : ∀ k ∈ S,k < base) : L1 w' base M d1 extra ks rv dr:=by
  have hM:=h.tab.baseM
  exact ⟨h.tab.fr hf (fun hm=>by have:=hS _ hm;omega) fun k hk=>.inl (hS k hk),h.mem,h.pairs,h.dg.fr hf fun k hk=>.inl (hS k hk)⟩
theorem L1.start (hM : Mp w M .i64 []) (hb : base ≤ M) : L1 w base M [] [] [] rv dr:=⟨Tab.start hM hb,by simp,by simp,by simp [Dg]⟩
theorem L1.look (h : L1 w base M d1 [] ks rv dr) (n : Nat) : (ks.map fun n=>(n,rv n)).lookup n = if n ∈ ks then some (rv n) else none:=look_map
theorem L1.add {n g c : Nat} (h : L1 w base M d1 [] ks rv dr) (hn : n ∉ ks) (hF : Fr [M] w w') (hO : w'.ownsRow base tDR 2 (.slice (some ⟨g,0,none⟩) 0 c) 0 []) (hg : w.heap.size ≤ g)
    (hM : Mp w' M .i64 ((ks.map fun n=>(n,rv n)) ++ [(n,.slice (some ⟨g,0,none⟩) 0 c)])) : L1 w' base M d1 [n] (ks ++ [n]) (upd rv n (.slice (some ⟨g,0,none⟩) 0 c)) (upd dr n []):=by
  have hne : ∀ m ∈ ks,m ≠ n:=fun m hm e=>hn (e ▸ hm)
  have ht:=h.tab.add hn hF hO hg hM
  have e : upd (fun n=>(dr n).map DRec.enc) n [] = fun m=>(upd dr n [] m).map DRec.enc:=by funext m;unfold upd;split <;> simp
  rw [e] at ht
  refine ⟨ht,fun m=>?_,fun m hm=>?_,?_,?_⟩
  · rw [List.mem_append,h.mem];simp
  · rcases List.mem_append.1 hm with hm|hm
    · rw [upd_ne (hne m hm)];exact h.pairs m hm
    · simp at hm;subst hm
      rw [upd_same]
      have : ofW d1 m = []:=by
        unfold ofW
        rw [List.filter_eq_nil_iff]
        intro x hx hd
        exact hn ((h.mem m).2 (.inl (List.mem_map.2 ⟨x,hx,by simpa using hd⟩)))
      rw [this];rfl
  · intro m hm x hx
    rcases List.mem_append.1 hm with h1|h1
    · rw [upd_ne (hne m h1)] at hx
      obtain ⟨a1,a2,a3,a4⟩:=h.dg.1 m h1 x hx
      refine ⟨a1.fr hF (by simpa using a3),a2,a3,fun m' hm'=>?_⟩
      rcases List.mem_append.1 hm' with h2|h2
      · rw [upd_ne (hne m' h2)];exact a4 m' h2
      · simp at h2;subst h2
        rw [upd_same]
        have:=a1.lt
        simp [Value.ownBlock];omega
    · simp at h1;subst h1
      rw [upd_same] at hx;simp at hx
  · intro m hm m' hm' hd x hx y hy
    rcases List.mem_append.1 hm with h1|h1
    · rcases List.mem_append.1 hm' with h2|h2
      · rw [upd_ne (hne m h1)] at hx
        rw [upd_ne (hne m' h2)] at hy
        exact h.dg.2 m h1 m' h2 hd x hx y hy
      · simp at h2;subst h2;rw [upd_same] at hy;simp at hy
    · simp at h1;subst h1;rw [upd_same] at hx;simp at hx
theorem L1.own (h : L1 w base M d1 extra ks rv dr) {n : Nat} (hn : n ∈ ks) : w.ownsRow base tDR 2 (rv n) (dr n).length (encs (dr n)):=by
  have:=h.tab.row n hn
  rwa [List.length_map] at this
theorem ofW_length (l : List Itm) (n : Nat) : (ofW l n).length ≤ l.length:=List.length_filter_le _ _
theorem L1.cnt {L : List Itm} {d2 : List Itm} {N n : Nat} (h : L1 w base M d1 extra ks rv dr) (hN : L.length ≤ N) (hL : L = d1 ++ d2) (hn : n ∈ ks) : (dr n).length ≤ N:=by
  have h1:=congrArg List.length (h.pairs n hn)
  have h2:=ofW_length d1 n
  have h3:=congrArg List.length hL
  simp at h1 h3
  omega
theorem L1.set {n g' c' j : Nat} {v0 : Value} {x : DRec} {e : Itm} (h : L1 w base M d1 extra ks rv dr) (hx : extra = [] ∨ extra = [n]) (he : n = e.1.dig.length) (hn : n ∈ ks) (hF : Fr (M :: (rv n).ownBlock.toList) w w')
    (hO : w'.ownsRow base tDR 2 (.slice (some ⟨g',0,none⟩) ((dr n).length + 1) c') ((dr n).length + 1) (encs (dr n) ++ x.enc)) (hg : (rv n).ownBlock = some g' ∨ w.heap.size ≤ g')
    (hM : Mp w' M .i64 ((ks.map fun n=>(n,rv n)).set j (n,.slice (some ⟨g',0,none⟩) ((dr n).length + 1) c'))) (hj : (ks.map fun n=>(n,rv n))[j]? = some (n,v0))
    (hd : x.dig = e.1.dig ∧ x.off = e.2) (hB : Bs w' x.b x.o x.dig) (hb : base ≤ x.b) (hbM : x.b ≠ M) (hbg : x.b ≠ g') (hb1 : ∀ m ∈ ks,(rv m).ownBlock ≠ some x.b) (hb2 : ∀ m ∈ ks,∀ y ∈ dr m,x.b ≠ y.b) :
    L1 w' base M (d1 ++ [e]) [] ks (upd rv n (.slice (some ⟨g',0,none⟩) ((dr n).length + 1) c')) (upd dr n (dr n ++ [x])):=by
  have ht:=h.tab.set (n:=n) (g':=g') (c':=c') (x:=x.enc) (j:=j) (v0:=v0) hn hF (by rw [List.length_map];exact hO) hg (by rw [List.length_map];exact hM) hj
  have e1 : upd (fun n=>(dr n).map DRec.enc) n ((dr n).map DRec.enc ++ [x.enc]) = fun m=>(upd dr n (dr n ++ [x]) m).map DRec.enc:=by funext m;unfold upd;split <;> simp
  simp only [List.length_map] at ht
  rw [e1] at ht
  have hg2 : ∀ m ∈ ks,∀ y ∈ dr m,y.b ≠ g':=fun m hm y hy e2=>by
    obtain ⟨a1,_,_,a4⟩:=h.dg.1 m hm y hy
    rcases hg with hg|hg
    · exact a4 n hn (by rw [hg,e2])
    · have:=a1.lt;omega
  refine ⟨ht,fun m=>?_,fun m hm=>?_,?_,?_⟩
  · rw [h.mem,List.map_append,List.mem_append]
    rcases hx with rfl|rfl
    · have:=(h.mem n).1 hn
      simp only [List.map_cons,List.map_nil,List.mem_cons,List.not_mem_nil,or_false] at this ⊢
      constructor
      · exact fun h=>.inl h
      · rintro (h1|h1)
        · exact h1
        · rw [h1,← he];exact this
    · simp [he]
  · have hf : ofW (d1 ++ [e]) m = ofW d1 m ++ (if m = n then [e] else []):=by
      unfold ofW
      rw [List.filter_append]
      congr 1
      by_cases hmn : m = n
      · subst hmn;rw [if_pos rfl];simp [List.filter_cons,he]
      · rw [if_neg hmn,List.filter_cons,if_neg (by simp;omega)];rfl
    rw [hf]
    by_cases hmn : m = n
    · subst hmn
      rw [upd_same,if_pos rfl,List.map_append,List.map_append,h.pairs m hm]
      simp [hd]
    · rw [upd_ne hmn,if_neg hmn,List.append_nil];exact h.pairs m hm
  · intro m hm y hy
    have hrows : ∀ m' ∈ ks,∀ k,(upd rv n (.slice (some ⟨g',0,none⟩) ((dr n).length + 1) c') m').ownBlock = some k → k = g' ∨ (rv m').ownBlock = some k:=fun m' hm' k hk=>by
      by_cases e2 : m' = n
      · subst e2;rw [upd_same] at hk;simp [Value.ownBlock] at hk;exact .inl hk.symm
      · rw [upd_ne e2] at hk;exact .inr hk
    have hy2 : y ∈ dr m ∨ y = x:=by
      by_cases e2 : m = n
      · subst e2;rw [upd_same] at hy;simpa using hy
      · rw [upd_ne e2] at hy;exact .inl hy
    rcases hy2 with hy2|rfl
    · obtain ⟨a1,a2,a3,a4⟩:=h.dg.1 m hm y hy2
      refine ⟨a1.fr hF fun hk=>?_,a2,a3,fun m' hm' ek=>?_⟩
      · rcases List.mem_cons.1 hk with hk|hk
        · exact a3 hk
        · exact a4 n hn (by simpa using hk)
      · rcases hrows m' hm' _ ek with h1|h1
        · exact hg2 m hm y hy2 h1
        · exact a4 m' hm' h1
    · refine ⟨hB,hb,hbM,fun m' hm' ek=>?_⟩
      rcases hrows m' hm' _ ek with h1|h1
      · exact hbg h1
      · exact hb1 m' hm' h1
  · intro m hm m' hm' hd2 y hy z hz
    have hin : ∀ m ∈ ks,∀ y ∈ upd dr n (dr n ++ [x]) m,y ∈ dr m ∨ (y = x ∧ m = n):=fun m hm y hy=>by
      by_cases e2 : m = n
      · subst e2;rw [upd_same] at hy;simpa using hy
      · rw [upd_ne e2] at hy;exact .inl hy
    rcases hin m hm y hy with h1|⟨rfl,rfl⟩ <;> rcases hin m' hm' z hz with h2|⟨rfl,rfl⟩
    · exact h.dg.2 m hm m' hm' hd2 y h1 z h2
    · exact fun e2=>hb2 m hm y h1 e2.symm
    · exact hb2 m' hm' z h2
    · exact absurd rfl hd2
def Fresh (base M : Nat) (ks : List Nat) (rv : Nat → Value) (dr : Nat → List DRec) (bh : Nat) : Prop:=base ≤ bh ∧ bh ≠ M ∧ (∀ m ∈ ks,(rv m).ownBlock ≠ some bh) ∧ ∀ m ∈ ks,∀ y ∈ dr m,bh ≠ y.b
theorem L1.fresh {bh : Nat} (h : L1 w base M d1 extra ks rv dr) (hb : w.heap.size ≤ bh) : Fresh base M ks rv dr bh:=by
  have hM:=h.tab.map.lt
  have:=h.tab.baseM
  refine ⟨by omega,by omega,fun m hm e=>?_,fun m hm y hy e=>?_⟩
  · have:=(h.tab.ownLt hm e).2.1;omega
  · have:=(h.dg.1 m hm y hy).1.lt;omega
theorem Fresh.add {bh n g n' c : Nat} (h : Fresh base M ks rv dr bh) (hg : bh ≠ g) : Fresh base M (ks ++ [n]) (upd rv n (.slice (some ⟨g,0,none⟩) n' c)) (upd dr n []) bh:=by
  obtain ⟨h1,h2,h3,h4⟩:=h
  refine ⟨h1,h2,fun m hm e=>?_,fun m hm y hy e=>?_⟩
  · by_cases hmn : m = n
    · subst hmn;rw [upd_same] at e;simp [Value.ownBlock] at e;omega
    · rw [upd_ne hmn] at e
      rcases List.mem_append.1 hm with hm|hm
      · exact h3 m hm e
      · simp at hm;exact hmn hm
  · by_cases hmn : m = n
    · subst hmn;rw [upd_same] at hy;simp at hy
    · rw [upd_ne hmn] at hy
      rcases List.mem_append.1 hm with hm|hm
      · exact h4 m hm y hy e
      · simp at hm;exact hmn hm
theorem L1.step {w6 w7 : World} {n g c g6 c6 bh od cd : Nat} {e : Itm} (h : L1 w base M d1 extra ks rv dr) (hx : extra = [] ∨ extra = [n]) (he : n = e.1.dig.length) (hn : n ∈ ks) (hrv : rv n = .slice (some ⟨g,0,none⟩) (dr n).length c) (hf : Fresh base M ks rv dr bh) (hB : Bs w bh od e.1.dig)
    (hF6 : Fr [g] w w6) (hO6 : w6.ownsRow base tDR 2 (.slice (some ⟨g6,0,none⟩) ((dr n).length + 1) c6) ((dr n).length + 1) (encs (dr n) ++ [.slice (some ⟨bh,od,none⟩) e.1.dig.length cd,.int .u64 e.2]))
    (hg6 : g6 = g ∨ w.heap.size ≤ g6) (hF7 : Fr [M] w6 w7)
    (hP : ((ks.map fun n=>(n,rv n)).lookup n = none ∧ Mp w7 M .i64 ((ks.map fun n=>(n,rv n)) ++ [(n,.slice (some ⟨g6,0,none⟩) ((dr n).length + 1) c6)])) ∨ ∃ j v0,(ks.map fun n=>(n,rv n))[j]? = some (n,v0) ∧ (ks.map fun n=>(n,rv n)).lookup n = some v0 ∧ Mp w7 M .i64 ((ks.map fun n=>(n,rv n)).set j (n,.slice (some ⟨g6,0,none⟩) ((dr n).length + 1) c6))) :
    L1 w7 base M (d1 ++ [e]) [] ks (upd rv n (.slice (some ⟨g6,0,none⟩) ((dr n).length + 1) c6)) (upd dr n (dr n ++ [⟨bh,od,cd,e.2,e.1.dig⟩])):=by
  have hown : (rv n).ownBlock = some g:=by rw [hrv];rfl
  have hgl:=h.tab.ownLt hn hown
  have hMl:=h.tab.map.lt
  have hbg : bh ≠ g:=fun e2=>hf.2.2.1 n hn (by rw [hown,e2])
  have hbl:=hB.lt
  have hg6M : g6 ≠ M:=by rcases hg6 with rfl|h <;> omega
  rcases hP with ⟨h0,_⟩|⟨j,v0,hj,_,hM7⟩
  · rw [look_map,if_pos hn] at h0;cases h0
  · refine h.set hx he hn (Fr.trans (S:=M :: (rv n).ownBlock.toList) (hF6.mono (by rw [hown];simp)) hF7 (by simp)) (own_fr hO6 hF7 (by intro k hk;simp at hk;subst hk;exact .inr (by simp [Value.ownBlock];exact hg6M))) ?_ hM7 hj ⟨rfl,rfl⟩ ?_ hf.1 hf.2.1 ?_ hf.2.2.1 hf.2.2.2
    · rw [hown];rcases hg6 with rfl|h
      · exact .inl rfl
      · exact .inr h
    · exact (hB.fr hF6 (by simpa using hbg)).fr hF7 (by simpa using hf.2.1)
    · rcases hg6 with rfl|h
      · exact hbg
      · show bh ≠ g6;omega
end
end Go.Proofs.Wx

namespace Go.Proofs.Wx
open Go Go.RowKit
theorem recWrite {w : World} {A : List UInt8} {g o n c k b so dc off : Nat} {dig : List UInt8} (hg : Blk w g (by8 A ++ List.replicate k (.int .u8 0)) 5 (0,0)) (ho : o = A.length) (hn : n = dig.length + 8) (hk : n ≤ k) (hc : n ≤ c)
    (hb : Bs w b so dig) (hbg : b ≠ g) (hoff : off < 18446744073709551616) (hd : dig.length ≤ 200) :
    Calls Tryz.prog 296 #[.agg #[.slice (some ⟨b,so,none⟩) dig.length dc,.int .u64 off],.slice (some ⟨g,o,none⟩) n c] w fun e w' =>
      e = .returned (.tuple #[]) ∧ Blk w' g (by8 (A ++ (dig ++ Lib.leBytes 8 off)) ++ List.replicate (k - n) (.int .u8 0)) 5 (0,0) ∧ Fr [g] w w':=by
  have hN:=Lib.hid hn
  have hO:=Lib.hid ho
  have hnn : (dig.length : Int) ≤ 200:=by omega
  have hmn : (dig.length : Int) ≤ (n : Int):=by omega
  have hnc : (n : Int) ≤ (c : Int):=by omega
  have hmc : (dig.length : Int) < (c : Int):=by omega
  have hcn : ¬ c = dig.length:=by omega
  have hgl:=hg.lt
  have hng : ∀ w1 : World,w.heap.size ≤ w1.heap.size → w1.heap.size ≠ g:=fun w1 h=>by omega
  clear hn ho hc hd
  go_enter Tryz.func296,Tryz.ntmps296
  go_wp2_with (first
    | (with_reducible refine list_bi .copy (fun K hK=>?_);  refine copyB _ _ 76 76 rfl 5 (by kernel_rfl) (by kernel_rfl) _ _ _ _ _ _ _ _ rfl rfl _ _ (by exact blkP) dig (hb.fr (S:=[]) (by exact frP) (by simp)) (by have:=hN.out;show _ = min _ _;omega) (by have:=hN.out;have:=hO.out;simp [by8_length];omega) (fun w1 hb1 hf1=>?_);have hT1:=hf1.blk (b:=w.heap.size) (Blk.drew (Blk.newAt rfl)) (by simp;omega);have tc1:=hT1.cells;have hF1 : Fr [g] w w1:=Fr.trans (S:=[g]) (by exact frP) hf1 (by simp);clear hf1)
    | go_at_call 68;refine (putU64 (n:=n - dig.length) (c:=c - dig.length) (o:=o + dig.length) hoff hb1.drew (by have:=hN.out;omega) (by have:=hN.out;have:=hO.out;rw [lay_length (by simp [by8_length];omega)];simp [by8_length];omega)).mono ?_;rintro e w2 ⟨rfl,hg2,hF2⟩
    | (refine wre 1 [(0,.free),(1,.free),(2,.free),(3,.look),(4,.act),(5,.free)] ?_)
    | (refine wre 2 [(0,.look),(1,.free),(2,.free),(3,.free),(4,.free),(5,.look),(6,.act)] ?_)
    | (with_reducible refine wEI ?_;(first|(refine wEN ?_;skip)|(refine wEF rfl (fun K hK=>?_);go_simp)|(refine wEL rfl rfl (fun K hK=>?_);go_simp)|(refine wER rfl (fun K hK=>?_);go_simp)|(refine wEM rfl (fun K hK=>?_);go_simp;try refine ⟨_,_,⟨rfl,rfl⟩,?_⟩)|(refine wEG rfl (fun K hK=>?_);go_simp)|(refine wpE_actp rfl rfl (fun K hK=>?_);simp only [List.getElem_toArray,List.getElem_cons_succ,List.getElem_cons_zero];(first|(with_reducible refine op_bi .copy ?_;  refine copyB _ _ 76 76 rfl 5 (by kernel_rfl) (by kernel_rfl) _ _ _ _ _ _ _ _ rfl rfl _ _ (by exact blkP) dig (hb.fr (S:=[]) (by exact frP) (by simp)) (by have:=hN.out;show _ = min _ _;omega) (by have:=hN.out;have:=hO.out;simp [by8_length];omega) (fun w1 hb1 hf1=>?_);have hT1:=hf1.blk (b:=w.heap.size) (Blk.drew (Blk.newAt rfl)) (by simp;omega);have tc1:=hT1.cells;have hF1 : Fr [g] w w1:=Fr.trans (S:=[g]) (by exact frP) hf1 (by simp);clear hf1)))|(refine wEA rfl (fun K hK=>?_);go_simp))))
  go_end0
  refine ⟨rfl,Blk.conv hg2 ?_,Fr.trans (S:=[g]) hF1 (Fr.trans (S:=[g]) (Fr.drew Fr.refl) hF2 (fun k hk _=>hk)) (fun k hk _=>hk)⟩
  have h1:=hN.out
  have h2:=hO.out
  subst h2
  rw [lay_step (by omega),show A.length + dig.length = (A ++ dig).length by simp,lay_step (by rw [Lib.leBytes_length];omega),List.append_assoc,Lib.leBytes_length]
  congr 2
  omega
end Go.Proofs.Wx
