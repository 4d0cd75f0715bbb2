import Derived.Test.YtdokbceiganhdaaGreatDoorM2
import Derived.Test.YtdokbceiganhdaaGreatDoorM7
import Derived.Test.YtdokbceiganhdaaGreatDoorM12
import Derived.Sort.AssemblyPlain
import Derived.Lib.Endian
set_option maxRecDepth 100000
set_option maxHeartbeats 1000000
set_option linter.unusedVariables false
set_option linter.unusedSimpArgs false
set_option linter.deprecated false
set_option linter.all false
set_option linter.unusedSectionVars false
namespace Go.Proofs.Wx
open Go Go.RowKit
/-- From the world w, in which the buffer holds ys, the world w' has come, in which it holds ys'; nothing else has turned. -/
structure Wr (p base : Nat) (w : World) (v : Value) (ys : List UInt8) (w' : World) (v' : Value) (ys' : List UInt8) : Prop where
  buf : Buf w' p base v' ys'
  own : v'.ownBlock = v.ownBlock ∨ ∃ k,v'.ownBlock = some k ∧ w.heap.size ≤ k
  fr : Fr (p :: v.ownBlock.toList) w w'
section
variable {p base : Nat} {w w' w'' : World} {v v' v'' : Value} {ys ys' ys'' : List UInt8}
theorem Wr.refl (h : Buf w p base v ys) : Wr p base w v ys w v ys:=⟨h,.inl rfl,Fr.refl⟩
theorem Wr.trans (h : Wr p base w v ys w' v' ys') (h' : Wr p base w' v' ys' w'' v'' ys'') : Wr p base w v ys w'' v'' ys'':=by
  refine ⟨h'.buf,?_,h.fr.trans h'.fr ?_⟩
  · rcases h'.own with e|⟨k,e,hk⟩
    · rcases h.own with e1|⟨k,e1,hk⟩
      · exact .inl (e.trans e1)
      · exact .inr ⟨k,e.trans e1,hk⟩
    · exact .inr ⟨k,e,Nat.le_trans h.fr.size hk⟩
  · intro k hk hl
    rcases List.mem_cons.1 hk with rfl|hk
    · simp
    · have hk' : v'.ownBlock = some k:=by simpa using hk
      rcases h.own with e1|⟨k',e1,hk2⟩
      · rw [← e1];simp [hk']
      · rw [hk'] at e1;cases e1;omega
theorem Buf.ownLt (h : Buf w p base v ys) : ∀ k,v.ownBlock = some k → base ≤ k ∧ k < w.heap.size:=h.own.lt
/-- Blocks that are none of the buffer's turn: the buffer stays. -/
theorem Wr.step {X : List Nat} (h : Wr p base w v ys w' v' ys') (hf : Fr X w' w'') (hX : ∀ k ∈ X,k ≠ p ∧ v'.ownBlock ≠ some k ∧ w.heap.size ≤ k) : Wr p base w v ys w'' v' ys' :=
  ⟨h.buf.fr hf (fun hm=>(hX p hm).1 rfl) (fun k hk=>.inr (hX k hk).2.1),h.own,h.fr.trans hf fun k hk hl=>by have:=(hX k hk).2.2;omega⟩
theorem Wr.same (h : Wr p base w v ys w' v' ys') (hf : Fr [] w' w'') : Wr p base w v ys w'' v' ys':=h.step hf (by simp)
end
theorem bufW {w : World} {p base b so c2 : Nat} {v : Value} {ys xs : List UInt8} (hBuf : Buf w p base v ys) (hB : Bs w b so xs) (hx : xs ≠ []) (hbp : b ≠ p) (hbv : v.ownBlock ≠ some b) (hfirst : ys = [] → v = .slice none 0 0 ∧ xs.length ≤ 64) (hlen : ys.length + xs.length < 1000000000000) (hbase : base ≤ w.heap.size) :
    Calls Tryz.prog 262 #[.pointer (some ⟨p,0,none⟩),.slice (some ⟨b,so,none⟩) xs.length c2] w fun e w'=>e = .returned (.tuple #[.int .i64 xs.length,.nilIface]) ∧ ∃ v',Wr p base w v ys w' v' (ys ++ xs) :=
  (bufWrite hBuf hB hx hbp hbv hfirst hlen hbase).mono fun e w' ⟨h1,v',h2,h3,h4⟩=>⟨h1,v',h2,h3.imp id fun h=>⟨_,h,Nat.le_refl _⟩,h4⟩
theorem setCells_fr {g : Nat} : ∀ (vs : List Value) (o : Nat) (w : World),Fr [g] w (w.setCells g o vs)
  | [],o,w=>Fr.refl
  | v :: vs,o,w=>Fr.trans (S:=[g]) (Fr.setCell (.inl (by simp)) Fr.refl) (setCells_fr vs (o + 1) (w.setCell ⟨g,o,none⟩ v)) (fun k hk _=>hk)
theorem setCells_blk {g : Nat} {T : TypeId} : ∀ (vs : List Value) (o : Nat) (w : World) (cs : List Value),Blk w g cs T (0,0) → o + vs.length ≤ cs.length → Blk (w.setCells g o vs) g (cs.take o ++ vs ++ cs.drop (o + vs.length)) T (0,0)
  | [],o,w,cs,h,_=>by simpa [World.setCells] using h
  | v :: vs,o,w,cs,h,hl=>by
    have h1:=setCells_blk vs (o + 1) (w.setCell ⟨g,o,none⟩ v) (cs.set o v) h.set (by simp at *;omega)
    refine Blk.conv (show Blk (w.setCells g o (v :: vs)) g _ T (0,0) from h1) ?_
    have ho : o < cs.length:=by simp at hl;omega
    rw [List.drop_set,if_pos (by omega),List.take_set]
    have e : (cs.take (o + 1)).set o v = cs.take o ++ [v]:=by
      rw [List.take_succ_eq_append_getElem ho,List.set_append_right _ _ (by simp;omega)]
      simp [Nat.min_eq_left (Nat.le_of_lt ho)]
    rw [e]
    simp [Nat.add_assoc,Nat.add_comm 1]
theorem byteCells_by8 (l : List UInt8) : Lib.byteCells l = by8 l:=rfl
theorem lay_eq (cs : List Value) (o : Nat) (xs : List UInt8) : cs.take o ++ by8 xs ++ cs.drop (o + (by8 xs).length) = lay cs o xs:=by unfold lay;rw [by8_length]
/-- binary.LittleEndian.PutUint64. -/
theorem putU64 {g o n c x : Nat} {w : World} {cs : List Value} (hx : x < 18446744073709551616) (hg : Blk w g cs 5 (0,0)) (hn : 8 ≤ n) (ho : o + 8 ≤ cs.length) :
    Calls Tryz.prog 68 #[.agg #[],.slice (some ⟨g,o,none⟩) n c,.int .u64 x] w fun e w'=>e = .returned (.tuple #[]) ∧ Blk w' g (lay cs o (Lib.leBytes 8 x)) 5 (0,0) ∧ Fr [g] w w':=by
  have c : ∀ k,k < 8 → w.cell? ⟨g,o + k,none⟩ = some (cs[o + k]?.getD undef):=fun k hk=>by
    rw [hg.cell,List.getElem?_eq_getElem (show o + k < cs.length by omega)];simp
  have f : ∀ k,w.frozen? ⟨g,o + k,none⟩ = false:=fun k=>hg.free _
  refine (Tryz.binary_LE_PutUint64 g o n _ x hx _ _ _ _ _ _ _ _ w hn (c 0 (by omega)) (c 1 (by omega)) (c 2 (by omega)) (c 3 (by omega)) (c 4 (by omega)) (c 5 (by omega)) (c 6 (by omega)) (c 7 (by omega)) (f 0) (f 1) (f 2) (f 3) (f 4) (f 5) (f 6) (f 7)).mono ?_
  rintro e w' ⟨rfl,rfl⟩
  refine ⟨rfl,?_,Fr.trans (S:=[g]) (Fr.alloc Fr.refl) (setCells_fr _ _ _) (fun k hk _=>hk)⟩
  have:=setCells_blk (Lib.byteCells (Lib.leBytes 8 x)) o (w.alloc (.cells #[] 126)) cs hg.alloc (by rw [byteCells_by8,by8_length,Lib.leBytes_length];exact ho)
  rw [byteCells_by8,lay_eq] at this
  exact this
theorem putU32 {g o n c x : Nat} {w : World} {cs : List Value} (hx : x < 4294967296) (hg : Blk w g cs 5 (0,0)) (hn : 4 ≤ n) (ho : o + 4 ≤ cs.length) :
    Calls Tryz.prog 297 #[.agg #[],.slice (some ⟨g,o,none⟩) n c,.int .u32 x] w fun e w'=>e = .returned (.tuple #[]) ∧ Blk w' g (lay cs o (Lib.leBytes 4 x)) 5 (0,0) ∧ Fr [g] w w':=by
  have c : ∀ k,k < 4 → w.cell? ⟨g,o + k,none⟩ = some (cs[o + k]?.getD undef):=fun k hk=>by
    rw [hg.cell,List.getElem?_eq_getElem (show o + k < cs.length by omega)];simp
  have f : ∀ k,w.frozen? ⟨g,o + k,none⟩ = false:=fun k=>hg.free _
  refine (Tryz.binary_LE_PutUint32 g o n _ x hx _ _ _ _ w hn (c 0 (by omega)) (c 1 (by omega)) (c 2 (by omega)) (c 3 (by omega)) (f 0) (f 1) (f 2) (f 3)).mono ?_
  rintro e w' ⟨rfl,rfl⟩
  refine ⟨rfl,?_,Fr.trans (S:=[g]) (Fr.alloc Fr.refl) (setCells_fr _ _ _) (fun k hk _=>hk)⟩
  have:=setCells_blk (Lib.byteCells (Lib.leBytes 4 x)) o (w.alloc (.cells #[] 126)) cs hg.alloc (by rw [byteCells_by8,by8_length,Lib.leBytes_length];exact ho)
  rw [byteCells_by8,lay_eq] at this
  exact this
/-- (*bytes.Buffer).String. -/
theorem bufString {w : World} {p base : Nat} {v : Value} {ys : List UInt8} (h : Buf w p base v ys) :
    Calls Tryz.prog 38 #[.pointer (some ⟨p,0,none⟩)] w fun e w'=>e = .returned (.string ⟨ys.toArray⟩) ∧ Fr [] w w':=by
  obtain ⟨⟨lr,hp⟩,own,hpb,_⟩:=h
  refine (Tryz.Buffer_String p p ys w ⟨Nat.le_refl _,v,lr,hp,?_,?_⟩).mono ?_
  · rw [byteCells_by8,by8_length];exact own_mono own (by omega)
  · intro e;have:=own.lt p e;omega
  · rintro e w' ⟨rfl,n,rfl⟩
    exact ⟨rfl,by exact frP⟩
end Go.Proofs.Wx

namespace Go.Proofs.Wx
open Go.Sort
variable {α : Type}
/-- Ascending: no later one is less than an earlier one. -/
def Srt (lt : α → α → Bool) (l : List α) : Prop:=l.Pairwise fun x y=>lt y x = false
section
variable {lt : α → α → Bool}
theorem Srt.append {X Y : List α} : Srt lt (X ++ Y) ↔ Srt lt X ∧ Srt lt Y ∧ ∀ x ∈ X,∀ y ∈ Y,lt y x = false:=List.pairwise_append
theorem SWO.le_of_lt (hO : SWO lt) {x y : α} (h : lt x y = true) : lt y x = false:=hO.asymmA h
end
end Go.Proofs.Wx

namespace Go.Proofs.Wx
open Go
abbrev Itm:=CidM × Nat
/-- Numbers, each once, ascending. -/
def insN (x : Nat) : List Nat → List Nat
  | []=>[x]
  | y :: l=>if x < y then x :: y :: l else if x = y then y :: l else y :: insN x l
def ascOf (l : List Nat) : List Nat:=l.foldr insN []
theorem mem_insN (x z : Nat) : ∀ l,z ∈ insN x l ↔ z = x ∨ z ∈ l
  | []=>by simp [insN]
  | y :: l=>by
    unfold insN
    split
    · simp
    · split
      · subst x;simp
      · simp [mem_insN x z l];constructor <;> intro h <;> rcases h with h|h|h <;> simp [h]
theorem insN_asc (x : Nat) : ∀ l,l.Pairwise (· < ·) → (insN x l).Pairwise (· < ·)
  | [],_=>by simp [insN]
  | y :: l,h=>by
    unfold insN
    rw [List.pairwise_cons] at h
    split
    · refine List.pairwise_cons.2 ⟨?_,List.pairwise_cons.2 h⟩
      intro z hz
      rcases List.mem_cons.1 hz with rfl|hz
      · assumption
      · have:=h.1 z hz;omega
    · split
      · exact List.pairwise_cons.2 h
      · refine List.pairwise_cons.2 ⟨?_,insN_asc x l h.2⟩
        intro z hz
        rcases (mem_insN x z l).1 hz with rfl|hz
        · omega
        · exact h.1 z hz
theorem mem_ascOf (z : Nat) : ∀ l,z ∈ ascOf l ↔ z ∈ l
  | []=>by simp [ascOf]
  | x :: l=>by show z ∈ insN x (ascOf l) ↔ _;rw [mem_insN,mem_ascOf z l];simp
theorem ascOf_asc : ∀ l,(ascOf l).Pairwise (· < ·)
  | []=>by simp [ascOf]
  | x :: l=>insN_asc x _ (ascOf_asc l)
theorem asc_unique : ∀ {a b : List Nat},a.Pairwise (· < ·) → b.Pairwise (· < ·) → (∀ x,x ∈ a ↔ x ∈ b) → a = b
  | [],[],_,_,_=>rfl
  | [],y :: b,_,_,h=>by have:=(h y).2 (by simp);simp at this
  | x :: a,[],_,_,h=>by have:=(h x).1 (by simp);simp at this
  | x :: a,y :: b,ha,hb,h=>by
    rw [List.pairwise_cons] at ha hb
    have e : x = y:=by
      have h1:=(h x).1 (by simp)
      have h2:=(h y).2 (by simp)
      rcases List.mem_cons.1 h1 with h1|h1
      · exact h1
      · rcases List.mem_cons.1 h2 with h2|h2
        · exact h2.symm
        · have:=hb.1 x h1;have:=ha.1 y h2;omega
    subst e
    congr 1
    refine asc_unique ha.2 hb.2 fun z=>?_
    have:=h z
    simp only [List.mem_cons] at this
    constructor
    · intro hz
      rcases this.1 (.inr hz) with rfl|h
      · have:=ha.1 z hz;omega
      · exact h
    · intro hz
      rcases this.2 (.inr hz) with rfl|h
      · have:=hb.1 z hz;omega
      · exact h
theorem perm_unique {α : Type} {le : α → α → Prop} : ∀ {a b : List α},a.Perm b → a.Pairwise le → b.Pairwise le → (∀ x ∈ a,∀ y ∈ a,le x y → le y x → x = y) → a = b
  | [],b,h,_,_,_=>by simpa using h.symm.eq_nil
  | x :: a,[],h,_,_,_=>by simpa using h.length_eq
  | x :: a,y :: b,h,ha,hb,hu=>by
    have e : x = y:=by
      have h1 : x ∈ y :: b:=h.mem_iff.1 (by simp)
      have h2 : y ∈ x :: a:=h.mem_iff.2 (by simp)
      rw [List.pairwise_cons] at ha hb
      rcases List.mem_cons.1 h1 with h1|h1
      · exact h1
      · rcases List.mem_cons.1 h2 with h3|h3
        · exact h3.symm
        · exact hu x (by simp) y h2 (ha.1 y h3) (hb.1 x h1)
    subst e
    congr 1
    rw [List.pairwise_cons] at ha hb
    exact perm_unique (List.Perm.cons_inv h) ha.2 hb.2 fun u hu1 v hv1=>hu u (by simp [hu1]) v (by simp [hv1])
/-- Entries by their digests. -/
def sortD (l : List Itm) : List Itm:=l.mergeSort fun a b=>decide (a.1.dig ≤ b.1.dig)
theorem sortD_perm (l : List Itm) : (sortD l).Perm l:=List.mergeSort_perm _ _
theorem sortD_sorted (l : List Itm) : (sortD l).Pairwise fun a b=>a.1.dig ≤ b.1.dig:=by
  have:=List.pairwise_mergeSort (le:=fun a b : Itm=>decide (a.1.dig ≤ b.1.dig)) (fun a b c h1 h2=>by
    simp only [decide_eq_true_eq] at *;exact List.le_trans h1 h2) (fun a b=>by
    simp only [Bool.or_eq_true,decide_eq_true_eq];exact List.le_total _ _) l
  exact this.imp fun h=>by simpa using h
/-- No two entries of one digest. -/
def Distinct (l : List Itm) : Prop:=l.Pairwise fun a b=>a.1.dig ≠ b.1.dig
theorem Distinct.eq {l : List Itm} (h : Distinct l) : ∀ x ∈ l,∀ y ∈ l,x.1.dig = y.1.dig → x = y:=by
  intro x hx y hy e
  induction l with
  | nil=>simp at hx
  | cons a l ih =>
    unfold Distinct at h ih
    rw [List.pairwise_cons] at h
    rcases List.mem_cons.1 hx with rfl|hx' <;> rcases List.mem_cons.1 hy with rfl|hy'
    · rfl
    · exact absurd e (h.1 y hy')
    · exact absurd e.symm (h.1 x hx')
    · exact ih h.2 hx' hy'
theorem Distinct.filter {l : List Itm} (h : Distinct l) (p : Itm → Bool) : Distinct (l.filter p):=List.Pairwise.filter p h
def rowB (e : Itm) : List UInt8:=e.1.dig ++ Lib.leBytes 8 e.2
def rowsB (l : List Itm) : List UInt8:=l.flatMap rowB
def ofW (l : List Itm) (n : Nat) : List Itm:=l.filter fun e=>e.1.dig.length == n
def ofC (l : List Itm) (c : Nat) : List Itm:=l.filter fun e=>e.1.code == c
def widthsOf (l : List Itm) : List Nat:=ascOf (l.map fun e=>e.1.dig.length)
def codesOf (l : List Itm) : List Nat:=ascOf (l.map fun e=>e.1.code)
def bucketB (l : List Itm) (n : Nat) : List UInt8:=Lib.leBytes 4 (n + 8) ++ (Lib.leBytes 8 ((n + 8) * (ofW l n).length) ++ rowsB (sortD (ofW l n)))
def groupB (l : List Itm) : List UInt8:=Lib.leBytes 4 (widthsOf l).length ++ (widthsOf l).flatMap (bucketB l)
def codeB (l : List Itm) (c : Nat) : List UInt8:=Lib.leBytes 8 c ++ groupB (ofC l c)
def idxB (l : List Itm) : List UInt8:=Lib.leBytes 4 (codesOf l).length ++ (codesOf l).flatMap (codeB l)
def pragmaB : List UInt8:=[10,161,103,118,101,114,115,105,111,110,2]
/-- No two entries of one hash function and digest. -/
def OnceC (l : List Itm) : Prop:=l.Pairwise fun a b=>¬ (a.1.code = b.1.code ∧ a.1.dig = b.1.dig)
theorem OnceC.ofC {l : List Itm} (h : OnceC l) (c : Nat) : Distinct (ofC l c):=by
  unfold OnceC at h
  unfold Distinct Wx.ofC
  rw [List.pairwise_filter]
  refine h.imp fun {a b} hab ha hb e=>hab ⟨?_,e⟩
  simp at ha hb
  rw [ha,hb]
theorem ofW_len {l : List Itm} {n : Nat} {e : Itm} (h : e ∈ ofW l n) : e.1.dig.length = n:=by simpa [ofW] using (List.mem_filter.1 h).2
theorem rowsB_length {n : Nat} : ∀ {l : List Itm},(∀ e ∈ l,e.1.dig.length = n) → (rowsB l).length = (n + 8) * l.length
  | [],_=>by simp [rowsB]
  | e :: l,h=>by
    have h1:=h e (by simp)
    have h2:=rowsB_length (l:=l) fun x hx=>h x (by simp [hx])
    simp [rowsB,rowB,Lib.leBytes_length] at *
    rw [h1,h2,Nat.mul_add];omega
end Go.Proofs.Wx

namespace Go.Proofs.Wx
open Go Go.RowKit
theorem wrap64_in {n : Int} (h1 : -9223372036854775808 ≤ n) (h2 : n < 9223372036854775808) : RowKit.wrap64 n = n:=by
  unfold RowKit.wrap64
  rw [Int.emod_eq_of_lt (by omega) (by omega)];omega
theorem lay_all {cs : List Value} {xs : List UInt8} (h : xs.length = cs.length) : lay cs 0 xs = by8 xs:=by
  unfold lay
  rw [Nat.zero_add,List.drop_of_length_le (by omega)];simp
theorem Blk.bsAll {w : World} {b : Nat} {cs : List Value} {T : TypeId} {fr : Nat × Nat} {xs : List UInt8} (h : Blk w b cs T fr) (e : cs = by8 xs) : Bs w b 0 xs:=Blk.bs (pre:=[]) (post:=[]) h (by simp [e]) rfl
theorem lay_step {A B : List UInt8} {k : Nat} (h : B.length ≤ k) : lay (by8 A ++ List.replicate k (.int .u8 0)) A.length B = by8 (A ++ B) ++ List.replicate (k - B.length) (.int .u8 0):=by
  unfold lay
  rw [List.take_left' (by8_length _),by8_append,List.drop_append,by8_length,List.drop_of_length_le (by rw [by8_length];omega)]
  simp
theorem putA {A : List UInt8} {k g o n c x : Nat} {w : World} (hx : x < 18446744073709551616) (hg : Blk w g (by8 A ++ List.replicate k (.int .u8 0)) 5 (0,0)) (hn : 8 ≤ n) (ho : o = A.length) (hk : 8 ≤ k) :
    Calls Tryz.prog 68 #[.agg #[],.slice (some ⟨g,o,none⟩) n c,.int .u64 x] w fun e w'=>e = .returned (.tuple #[]) ∧ Blk w' g (by8 (A ++ Lib.leBytes 8 x) ++ List.replicate (k - 8) (.int .u8 0)) 5 (0,0) ∧ Fr [g] w w':=by
  subst ho
  refine (putU64 hx hg hn (by simp [by8_length];omega)).mono ?_
  rintro e w' ⟨h1,h2,h3⟩
  refine ⟨h1,Blk.conv h2 ?_,h3⟩
  rw [lay_step (by rw [Lib.leBytes_length];exact hk),Lib.leBytes_length]
def isStruct (P : Program) (t : TypeId) : Bool:=match P.underlying t with|some (.struct _)=>true|_=>false
theorem struct_of {P : Program} {t : TypeId} (h : isStruct P t = true) : ∃ f,P.underlying t = some (.struct f):=by
  unfold isStruct at h
  split at h
  · rename_i f hf;exact ⟨_,hf⟩
  · cases h
theorem newHeader {n : Nat} (hn : n < 1000000000) (w : World) : Calls Tryz.prog 27 #[.int .u64 n] w fun e w'=>e = .returned (.agg #[.int .u64 0,.int .u64 0,.int .u64 51,.int .u64 n,.int .u64 (51 + n : Nat)]) ∧ Fr [] w w':=by
  have h1 : (n : Int) < 1000000000:=by omega
  go_enter Tryz.func27,Tryz.ntmps27
  go_wp2
  obtain ⟨fd,hu⟩:=struct_of (P:=Tryz.prog) (t:=63) (by kernel_rfl)
  refine bodyPost_ret (results_cell_row rfl _ _ w.heap.size 63 #[.int .u64 0,.int .u64 0,.int .u64 51,.int .u64 n,.int .u64 (51 + n)] (0,0) (.struct fd) rfl ?_ hu rfl (by kernel_rfl)) rfl ?_
  · rw [Below.heap_alloc _ _ _ (by simp)];exact heap_alloc_new _ _
  · exact ⟨by simp,by exact frP⟩
end Go.Proofs.Wx

namespace Go.Proofs.Wx
open Go Go.RowKit
theorem makeBk {o : Oper} {a : Act} {K : Act → World → Prop} {Q : Exit → Act → World → Prop} {w : World} (l c : Operand) (ho : o.op = .makeSlice 76 l c)
    (kl kc : IntKind) (L C : Int) (n cap T : Nat) (hl : a.eval l = .int kl L) (hc : a.eval c = .int kc C) (hL : L = (n : Int)) (hC : C = (cap : Int)) (hnc : n ≤ cap) (hb : cap ≤ 140737488355328) (hT : T = w.heap.size)
    (h : ∀ w',Blk w' T (List.replicate cap (Value.int .u8 0)) 5 (0,0) → Fr [] w w' → K (a.put o.dst (.slice (some ⟨T,0,none⟩) n cap)) w') : o.wp Tryz.prog a w K Q:=by
  subst hT
  exact makeB l c ho kl kc L C n cap hl hc hL hC hnc hb (h _ Blk.new (Fr.alloc Fr.refl))
theorem putZ {A Z : List UInt8} {k g o n c x : Nat} {w : World} (hZ : Hid (Z = Lib.leBytes 8 x)) (hx : x < 18446744073709551616) (hg : Blk w g (by8 A ++ List.replicate k (.int .u8 0)) 5 (0,0)) (hn : 8 ≤ n) (ho : o = A.length) (hk : 8 ≤ k) :
    Calls Tryz.prog 68 #[.agg #[],.slice (some ⟨g,o,none⟩) n c,.int .u64 x] w fun e w'=>e = .returned (.tuple #[]) ∧ Blk w' g (by8 (A ++ Z) ++ List.replicate (k - 8) (.int .u8 0)) 5 (0,0) ∧ Fr [g] w w':=by
  rw [hZ.out];exact putA hx hg hn ho hk
def traitsB : List UInt8:=Lib.leBytes 8 0 ++ Lib.leBytes 8 0
theorem lb8 (x : Nat) : (Lib.leBytes 8 x).length = 8:=Lib.leBytes_length 8 x
theorem bufWn {w : World} {p base b so c2 n : Nat} {v : Value} {ys xs : List UInt8} (hBuf : Buf w p base v ys) (hB : Bs w b so xs) (hn : xs.length = n) (h0 : 0 < n) (hbp : b ≠ p) (hbv : v.ownBlock ≠ some b) (hfirst : ys = [] → v = .slice none 0 0 ∧ n ≤ 64) (hlen : ys.length + n < 1000000000000) (hbase : base ≤ w.heap.size) :
    Calls Tryz.prog 262 #[.pointer (some ⟨p,0,none⟩),.slice (some ⟨b,so,none⟩) n c2] w fun e w'=>e = .returned (.tuple #[.int .i64 n,.nilIface]) ∧ ∃ v',Wr p base w v ys w' v' (ys ++ xs):=by
  subst hn
  exact bufW hBuf hB (List.length_pos_iff.1 h0) hbp hbv hfirst hlen hbase
theorem traitsB_length : traitsB.length = 16:=by simp [traitsB,lb8]
end Go.Proofs.Wx

namespace Go.Proofs.Wx
open Go Go.RowKit
theorem leBytes_snoc : ∀ (k n : Nat),Lib.leBytes (k + 1) n = Lib.leBytes k n ++ [UInt8.ofNat (n / 256 ^ k)]:=by
  intro k
  induction k with
  | zero=>intro n;simp [Lib.leBytes];apply UInt8.toNat.inj;simp
  | succ k ih =>
    intro n
    rw [Lib.leBytes,ih (n / 256),Lib.leBytes]
    simp [Nat.div_div_eq_div_mul,Nat.pow_succ,Nat.mul_comm]
/-- From w and an own row v has come w' and an own row v'; nothing else has turned. -/
structure Ap8 (base : Nat) (w : World) (v : Value) (xs : List UInt8) (w' : World) (v' : Value) (xs' : List UInt8) : Prop where
  own : OwnB base w' v' xs'
  at' : v'.ownBlock = v.ownBlock ∨ ∃ k,v'.ownBlock = some k ∧ w.heap.size ≤ k
  fr : Fr v.ownBlock.toList w w'
section
variable {base : Nat} {w w' w'' : World} {v v' v'' : Value} {xs xs' xs'' : List UInt8}
theorem Ap8.refl (h : OwnB base w v xs) : Ap8 base w v xs w v xs:=⟨h,.inl rfl,Fr.refl⟩
theorem Ap8.trans (h : Ap8 base w v xs w' v' xs') (h' : Ap8 base w' v' xs' w'' v'' xs'') : Ap8 base w v xs w'' v'' xs'':=by
  refine ⟨h'.own,?_,h.fr.trans h'.fr ?_⟩
  · rcases h'.at' with e|⟨k,e,hk⟩
    · rcases h.at' with e1|⟨k,e1,hk⟩
      · exact .inl (e.trans e1)
      · exact .inr ⟨k,e.trans e1,hk⟩
    · exact .inr ⟨k,e,Nat.le_trans h.fr.size hk⟩
  · intro k hk hl
    have hk' : v'.ownBlock = some k:=by simpa using hk
    rcases h.at' with e1|⟨k',e1,hk2⟩
    · rw [← e1];exact hk
    · rw [hk'] at e1;cases e1;omega
/-- Blocks that are none of the row's turn. -/
theorem Ap8.step {X : List Nat} (h : Ap8 base w v xs w' v' xs') (hf : Fr X w' w'') (hX : ∀ k ∈ X,v'.ownBlock ≠ some k ∧ w.heap.size ≤ k) : Ap8 base w v xs w'' v' xs' :=
  ⟨h.own.fr hf fun k hk=>.inr (hX k hk).1,h.at',h.fr.trans hf fun k hk hl=>by have:=(hX k hk).2;omega⟩
theorem Ap8.same (h : Ap8 base w v xs w' v' xs') (hf : Fr [] w' w'') : Ap8 base w v xs w'' v' xs':=h.step hf (by simp)
theorem Ap8.pre {w0 : World} (h : Ap8 base w v xs w' v' xs') (hf : Fr [] w0 w) : Ap8 base w0 v xs w' v' xs':=by
  refine ⟨h.own,?_,(hf.mono (by simp)).trans h.fr (fun k hk _=>hk)⟩
  rcases h.at' with e|⟨k,e,hk⟩
  · exact .inl e
  · exact .inr ⟨k,e,Nat.le_trans hf.size hk⟩
end
theorem byte_at (n i : Nat) : (n : Int) / 2 ^ (8 * i) % 256 = ((UInt8.ofNat (n / 256 ^ i)).toNat : Nat):=by
  rw [show (256 : Nat) ^ i = 2 ^ (8 * i) by rw [Nat.pow_mul]]
  simp
end Go.Proofs.Wx
