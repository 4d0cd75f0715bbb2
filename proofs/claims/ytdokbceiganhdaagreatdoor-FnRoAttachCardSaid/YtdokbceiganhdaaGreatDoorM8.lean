import Derived.Test.YtdokbceiganhdaaGreatDoorM3
import Derived.Test.YtdokbceiganhdaaGreatDoorM7
set_option maxRecDepth 100000
set_option maxHeartbeats 1000000
set_option linter.unusedVariables false
set_option linter.unusedSimpArgs false
set_option linter.deprecated false
set_option linter.all false
set_option linter.unusedSectionVars false
namespace Go.Proofs.Wx
open Go Go.RowKit
def blkA (b : BlkM) : Value:=.agg #[.int .u64 b.cid.v,.int .u64 b.cid.codec,.int .u64 b.cid.code,.string ⟨b.cid.dig.toArray⟩,.string ⟨b.data.toArray⟩]
theorem CidM.Ok.ok1 {c : CidM} (h : c.Ok) : c.Ok1:=by
  have:=h.len
  rcases h.kind with ⟨h0,h1,h2,h3⟩|⟨h0,h1,h2⟩ <;> exact ⟨by omega,by omega,by omega,by omega⟩
set_option maxRecDepth 1000000 in
set_option maxHeartbeats 12800000 in
theorem spSection {w : World} {b : BlkM} (hok : b.cid.Ok) (hd : b.data.length ≤ 32768) : Calls Tryz.prog 22 #[blkA b] w fun e w'=>e = .returned (.string ⟨(secB b).toArray⟩) ∧ Fr [] w w':=by
  have hle:=hok.le
  have h1:=fun w=>spCidBytes (w:=w) hok.ok1
  obtain ⟨N,hN⟩ : ∃ N,Hid (N = b.cid.bytes.length + b.data.length):=⟨_,rfl⟩
  have hN1 : N < 1000000:=by have:=hN.out;omega
  have hS : (b.cid.bytes.length : Int) + (b.data.length : Int) = (N : Int):=by have:=hN.out;omega
  have h2:=fun w=>spVarint (w:=w) (n:=N) (by omega)
  have hv:=Lib.uvarint_length64 (x:=N) (by omega)
  have wL : IntKind.u64.wrap (N : Int) = (N : Int):=by simp [IntKind.wrap,IntKind.bits,IntKind.signed];omega
  have wI : IntKind.i64.wrap (N : Int) = (N : Int):=by simp [IntKind.wrap,IntKind.bits,IntKind.signed];omega
  have hb : secB b = Lib.uvarint N ++ (b.cid.bytes ++ b.data):=by rw [hN.out];simp [secB,BlkM.inner]
  rw [hb]
  clear hb hok
  unfold blkA
  unfold cidA at *
  go_enter Tryz.func22,Tryz.ntmps22
  go_wp2_with (first
    | go_at_call 46;refine (h1 _).mono ?_;rintro e w1 ⟨rfl,hF1⟩;clear h1;have hT:=hF1.blk (b:=w.heap.size) (Blk.newAt rfl) (by simp);have tc:=hT.cells;have hF01 : Fr [] w w1:=Fr.trans (S:=[]) (by exact frP) hF1 (by simp);clear hF1
    | go_at_call 45;refine (h2 _).mono ?_;rintro e w2 ⟨g1,c1,rfl,hg1,hB1,hF2⟩;(try go_simp);refine hK _ _ (Fr.ext hF2) ?_;clear h2
    | (with_reducible refine wEI ?_);(refine wpE_str _ rfl rfl rfl hB1 rfl rfl ?_);(try go_simp);clear hB1
    | (refine wre 2 [(0,.free),(1,.free),(2,.free),(3,.look),(4,.free),(5,.free),(6,.free),(9,.free),(11,.free),(12,.look),(7,.grow),(8,.look),(10,.free),(13,.free),(14,.free)] ?_)
    | (with_reducible refine wEI ?_;(first|(refine wEN ?_;skip)|(refine wEF rfl (fun K hK=>?_);go_simp)|(refine wEL rfl rfl (fun K hK=>?_);go_simp)|(refine wER rfl (fun K hK=>?_);go_simp)|(refine wEM rfl (fun K hK=>?_);go_simp;try refine ⟨_,_,⟨rfl,rfl⟩,?_⟩)|(refine wEG rfl (fun K hK=>?_);go_simp)|(refine wEA rfl (fun K hK=>?_);go_simp))))
  go_ret
  exact ⟨by simp,hF01.trans (Fr.trans (S:=[]) (Fr.drew Fr.refl) hF2 (by simp)) (by simp)⟩
/-- Blocks in a row of a slice. -/
def BlksAt (w : World) (ad : Option Addr) (l : List BlkM) : Prop:=∀ i x,l[i]? = some x → ∃ b o,ad = some ⟨b,o,none⟩ ∧ w.cell? ⟨b,o + i * 5,none⟩ = some (.int .u64 x.cid.v) ∧ w.cell? ⟨b,o + i * 5 + 1,none⟩ = some (.int .u64 x.cid.codec) ∧ w.cell? ⟨b,o + i * 5 + 2,none⟩ = some (.int .u64 x.cid.code) ∧
  w.cell? ⟨b,o + i * 5 + 3,none⟩ = some (.string ⟨x.cid.dig.toArray⟩) ∧ w.cell? ⟨b,o + i * 5 + 4,none⟩ = some (.string ⟨x.data.toArray⟩)
theorem BlksAt.ext {w w' : World} {ad : Option Addr} {l : List BlkM} (h : BlksAt w ad l) (he : w.Ext w') : BlksAt w' ad l:=fun i c hc=>by
  obtain ⟨b,o,ha,h1,h2,h3,h4,h5⟩:=h i c hc
  exact ⟨b,o,ha,he.cell h1,he.cell h2,he.cell h3,he.cell h4,he.cell h5⟩
/-- A car as it is handed on. -/
structure CarAt (w : World) (ra ba : Option Addr) (c : CarM) : Prop where
  roots : CidsAt w ra c.roots
  blocks : BlksAt w ba c.blocks
theorem CarAt.ext {w w' : World} {ra ba : Option Addr} {c : CarM} (h : CarAt w ra ba c) (he : w.Ext w') : CarAt w' ra ba c:=⟨h.roots.ext he,h.blocks.ext he⟩
abbrev carA (ra ba : Option Addr) (rc bc : Nat) (c : CarM) : Value:=.agg #[.slice ra c.roots.length rc,.slice ba c.blocks.length bc]
def car1Rel (w : World) (pre : List UInt8) (l : List BlkM) (k : Nat) (s3 s12 : Value) (wr : World) : Prop :=
  ∃ l1 l2 X,l = l1 ++ l2 ∧ l2.length = k ∧ s12 = .int .i64 l1.length ∧ s3 = .string ⟨X⟩ ∧ X.toList = pre ++ secsB l1 ∧ Fr [] w wr
set_option maxRecDepth 1000000 in
set_option maxHeartbeats 12800000 in
theorem spCar1 {w : World} {ra ba : Option Addr} {rc bc : Nat} {c : CarM} (h : CarAt w ra ba c) (hok : c.Ok) :
    Calls Tryz.prog 8 #[carA ra ba rc bc c] w fun e w'=>e = .returned (.string ⟨c.bytes.toArray⟩) ∧ Fr [] w w':=by
  have hhd:=fun (w' : World) (he : w.Ext w')=>spHeader (cap:=rc) (h.roots.ext he) hok.roots hok.root
  have hlh:=headerB_length hok.roots hok.root
  have hcb : c.bytes = headerB c.roots ++ secsB c.blocks:=rfl
  rw [hcb]
  obtain ⟨H,hH⟩ : ∃ H,Hid (H = headerB c.roots):=⟨_,rfl⟩
  rw [← hH.out] at hhd hlh ⊢
  have HL:=Lib.hid (And.intro hok h)
  clear hcb hok h
  unfold carA
  go_enter Tryz.func8,Tryz.ntmps8
  go_wp2_with (first
    | go_at_call 21;refine (hhd _ (World.Ext.alloc _ _)).mono ?_;rintro e w1 ⟨rfl,hF1⟩;clear hhd;have hT:=hF1.blk (b:=w.heap.size) (Blk.newAt rfl) (by simp);have tc:=hT.cells;have hF01 : Fr [] w w1:=Fr.trans (S:=[]) (by exact frP) hF1 (by simp);clear hF1)
  clear tc
  go_loopg [3,12] c.blocks.length (fun k s3 s12 wr=>car1Rel w H c.blocks k s3 s12 wr)
  case atStart=>exact ⟨[],c.blocks,_,rfl,rfl,rfl,rfl,by simp [secsB],hF01⟩
  case round =>
    obtain ⟨l1,l2,X,hll,hk,rfl,rfl,hX,hFr⟩:=hrel
    obtain ⟨Y,rfl⟩ : ∃ Y : List UInt8,X = Y.toArray:=⟨X.toList,by simp⟩
    have hY : Y = H ++ secsB l1:=by simpa using hX
    clear hX hF01 hT
    cases l2 with
    | nil =>
      have hz : ¬ (l1.length : Int) < (c.blocks.length : Int):=by rw [hll];simp
      have e1 : c.blocks = l1:=by simpa using hll
      have HY:=Lib.hid (And.intro hY e1)
      clear hll hk hY e1
      go_wp2
      go_ret
      refine ⟨?_,hFr⟩
      rw [HY.out.1,HY.out.2];rfl
    | cons x l2 =>
      have hz : (l1.length : Int) < (c.blocks.length : Int):=by rw [hll];simp;omega
      have hgc : c.blocks[l1.length]? = some x:=by rw [hll];simp
      have hxm:=List.mem_of_getElem? hgc
      obtain ⟨b,o,rfl,x1,x2,x3,x4,x5⟩:=(HL.out.2.blocks.ext (Fr.ext hFr)) _ _ hgc
      have hse:=fun w=>spSection (w:=w) (HL.out.1.cid x hxm) (HL.out.1.data x hxm)
      have hsl:=secB_length (HL.out.1.cid x hxm) (HL.out.1.data x hxm)
      have hl50 : l1.length + l2.length + 1 ≤ 50:=by have:=HL.out.1.blocks;rw [hll] at this;simp at this;omega
      have hYl : Y.length ≤ 1700000:=by
        have h1:=secsB_length (l:=l1) (fun x hx=>HL.out.1.cid x (by rw [hll];simp [hx])) (fun x hx=>HL.out.1.data x (by rw [hll];simp [hx]))
        have h2 : 32992 * l1.length ≤ 32992 * 50:=Nat.mul_le_mul (Nat.le_refl _) (by omega)
        rw [hY];simp;omega
      unfold blkA at hse
      have HQ:=Lib.hid (And.intro hll (And.intro hk hY))
      clear hll hk hY hgc hxm
      go_wp2_with (first
        | go_at_call 22;(with_reducible refine (hse _).mono ?_);rintro e w4 ⟨rfl,hF4⟩;clear hse)
      go_roundg l2.length
      case measure=>have:=HQ.out.2.1;simp at this;omega
      case rel =>
        obtain ⟨hll,hk,hY⟩:=HQ.out
        refine ⟨l1 ++ [x],l2,_,by rw [hll];simp,rfl,by first|(rw [wrap64_1 (by omega)];simp;done)|(simp;done),rfl,?_,hFr.trans (Fr.trans (S:=[]) (by exact frP) hF4 (by simp)) (by simp)⟩
        simp [hY,secsB]
theorem own_blk {w : World} {base g n : Nat} {e : TypeId} {cs : List Value} (h : Blk w g cs e (0,0)) (hb : base ≤ g) (hl : cs.length = n) (hn : n ≤ 1000000) : w.ownsRow base e 1 (.slice (some ⟨g,0,none⟩) n n) n cs :=
  ⟨by simp [hl],.inr ⟨g,n,cs.toArray,rfl,hb,h,Nat.le_refl _,by unfold maxLen;omega,by simp [hl],by subst hl;simp⟩⟩
/-- append of one value of one cell that was just laid. -/
theorem app1v {o : Oper} {a : Act} {K : Act → World → Prop} {Q : Exit → Act → World → Prop} {w : World} (s x : Operand) (T e : TypeId)
    (ho : o.op = .call { callee:=.builtin .append,args:=#[s,x],argTypes:=#[T,T] }) {z : Value} {q : Nat} (hT : Tryz.prog.underlying T = some (.slice e)) (hi : (Tryz.prog.info? e).map (fun i=>(i.zero,i.size,i.bytes)) = some (some z,1,q)) (hz : z.cells.size = 1) (hq : q ≤ 1000)
    (base : Nat) (v : Value) (n : Nat) (xs : List Value) (hs : a.eval s = v) (hown : w.ownsRow base e 1 v n xs) (b c : Nat) (hx : a.eval x = .slice (some ⟨b,0,none⟩) 1 c) (u : Value) (hu : u.oneCell' = true) (hc : w.cell? ⟨b,0,none⟩ = some u)
    (hl : n < 1000000000) (hbase : base ≤ w.heap.size)
    (h : ∀ v' w',w'.ownsRow base e 1 v' (n + 1) (xs ++ [u]) → Fr v.ownBlock.toList w w' → K (a.put o.dst v') w') : o.wp Tryz.prog a w K Q:=by
  refine appOwn s x T ho base e z 1 q hT hi hz (by omega) v n xs hs hown ⟨b,0,none⟩ 1 c [u] hx rfl ?_ (by intro y hy;simp at hy;subst hy;exact hu) (by omega) ?_ hbase h
  · intro j y hy
    match j,hy with
    | 0,hy=>simp at hy;subst hy;rw [Addr.add_lit];exact hc
  · have:=Nat.mul_le_mul (show n + 1 ≤ 1000000000 by omega) hq
    omega
def placesL (c : CarM) (n : Nat) : List Value:=(List.range (n + 1)).map fun i=>.int .i64 ((headerB c.roots).length + (secsB (c.blocks.take i)).length : Nat)
theorem placesL_get {c : CarM} {n i : Nat} (h : i ≤ n) : (placesL c n)[i]? = some (.int .i64 ((headerB c.roots).length + (secsB (c.blocks.take i)).length : Nat)):=by simp [placesL,show i < n + 1 by omega]
theorem placesL_succ (c : CarM) (n : Nat) : placesL c (n + 1) = placesL c n ++ [.int .i64 ((headerB c.roots).length + (secsB (c.blocks.take (n + 1))).length : Nat)]:=by simp [placesL,List.range_succ]
def plRel (w : World) (base : Nat) (c : CarM) (k : Nat) (s3 s4 s16 : Value) (wr : World) : Prop :=
  ∃ i Q,s16 = .int .i64 (i : Nat) ∧ i + k = c.blocks.length ∧ s3 = .int .i64 (Q : Nat) ∧ Hid (Q = (headerB c.roots).length + (secsB (c.blocks.take i)).length) ∧ wr.ownsRow base 3 1 s4 (i + 1) (placesL c i) ∧ Fr [] w wr
set_option maxRecDepth 1000000 in
set_option maxHeartbeats 12800000 in
theorem spPlaces {w : World} {ra ba : Option Addr} {rc bc : Nat} {c : CarM} (h : CarAt w ra ba c) (hok : c.Ok) :
    Calls Tryz.prog 20 #[carA ra ba rc bc c] w fun e w'=>∃ g cp,e = .returned (.slice (some ⟨g,0,none⟩) (c.blocks.length + 1) cp) ∧ w.heap.size ≤ g ∧ g < w'.heap.size ∧
      (∀ i,i ≤ c.blocks.length → w'.cell? ⟨g,i,none⟩ = some (.int .i64 ((headerB c.roots).length + (secsB (c.blocks.take i)).length : Nat))) ∧ Fr [] w w':=by
  have hhd:=fun (w' : World) (he : w.Ext w')=>spHeader (cap:=rc) (h.roots.ext he) hok.roots hok.root
  have hlh:=headerB_length hok.roots hok.root
  have HL:=Lib.hid (And.intro hok h)
  clear hok h
  unfold carA
  obtain ⟨H,hH⟩ : ∃ H,Hid (H = headerB c.roots):=⟨_,rfl⟩
  rw [← hH.out] at hhd hlh
  go_enter Tryz.func20,Tryz.ntmps20
  go_wp2_with (first
    | go_at_call 21;refine (hhd _ (World.Ext.alloc _ _)).mono ?_;rintro e w1 ⟨rfl,hF1⟩;clear hhd;have hT:=hF1.blk (b:=w.heap.size) (Blk.newAt rfl) (by simp);have tc:=hT.cells;have hF01 : Fr [] w w1:=Fr.trans (S:=[]) (by exact frP) hF1 (by simp);clear hF1;have htl:=hT.lt)
  clear tc
  have hO1 : (w1.alloc (.cells #[.int .i64 (H.length : Nat)] 3)).ownsRow w1.heap.size 3 1 (.slice (some ⟨w1.heap.size,0,none⟩) 1 1) 1 (placesL c 0):=own_blk (Blk.conv (Blk.newAt (cs:=[.int .i64 (H.length : Nat)]) rfl) (by simp [placesL,secsB,hH.out])) (Nat.le_refl _) (by simp [placesL]) (by omega)
  have hF02 : Fr [] w (w1.alloc (.cells #[.int .i64 (H.length : Nat)] 3)):=hF01.trans (Fr.alloc Fr.refl : Fr [] w1 _) (by simp)
  have hbs : w1.heap.size < (w1.alloc (.cells #[.int .i64 (H.length : Nat)] 3)).heap.size:=by simp
  generalize w1.alloc (.cells #[.int .i64 (H.length : Nat)] 3) = w2 at *
  have hB0 : w.heap.size ≤ w1.heap.size:=hF01.size
  generalize w1.heap.size = B0 at *
  go_loopg [3,4,16] c.blocks.length (fun k s3 s4 s16 wr=>plRel w B0 c k s3 s4 s16 wr)
  case atStart=>exact ⟨0,H.length,rfl,by omega,rfl,by show _ = _;simp [secsB,hH.out],hO1,hF02⟩
  case round =>
    obtain ⟨i,Q,rfl,hik,rfl,hQ,hO,hFr⟩:=hrel
    clear hO1 hF02 hF01 hT
    by_cases hi : i < c.blocks.length
    · have hz : (i : Int) < (c.blocks.length : Int):=by omega
      obtain ⟨x,hx⟩ : ∃ x,x = c.blocks[i]:=⟨_,rfl⟩
      have hgc : c.blocks[i]? = some x:=by rw [hx];simp [hi]
      have hxm:=List.mem_of_getElem? hgc
      obtain ⟨b,o,rfl,x1,x2,x3,x4,x5⟩:=(HL.out.2.blocks.ext (Fr.ext hFr)) _ _ hgc
      have hse:=fun w=>spSection (w:=w) (HL.out.1.cid x hxm) (HL.out.1.data x hxm)
      have hsl:=secB_length (HL.out.1.cid x hxm) (HL.out.1.data x hxm)
      have htk : (secsB (c.blocks.take (i + 1))).length = (secsB (c.blocks.take i)).length + (secB x).length:=by
        rw [List.take_succ,hgc];simp [secsB]
      have hi50 : i < 50:=by have:=HL.out.1.blocks;omega
      have hQ2 : Q ≤ 1700000:=by
        have h1:=secsB_length (l:=c.blocks.take i) (fun x hx=>HL.out.1.cid x (List.mem_of_mem_take hx)) (fun x hx=>HL.out.1.data x (List.mem_of_mem_take hx))
        have h2 : 32992 * (c.blocks.take i).length ≤ 32992 * 50:=Nat.mul_le_mul (Nat.le_refl _) (by simp;omega)
        have h3:=headerB_length HL.out.1.roots HL.out.1.root
        rw [hQ.out];omega
      unfold blkA at hse
      have hQz : (Q : Int) ≤ 1700000:=by omega
      have hsz : ((secB x).length : Int) ≤ 32992:=by omega
      have HQ:=Lib.hid (And.intro hik (And.intro hgc htk))
      have hbr:=hFr.size
      have hB1 : B0 ≤ wr.heap.size:=by obtain ⟨g,cp,rest,_,h1,h2⟩:=own_rowS hO (by omega);have:=h2.lt;omega
      clear hik hgc hxm htk hx
      go_wp2_with (first
        | go_at_call 22;(with_reducible refine (hse _).mono ?_);rintro e w4 ⟨rfl,hF4⟩;clear hse;have hO4:=own_fr (own_fr (S:=[]) hO (Fr.alloc Fr.refl) (by simp)) hF4 (by simp);have h4s:=hF4.size;simp only [World.size_alloc] at h4s
        | ((with_reducible refine list_bi .append (fun K hK=>?_));  refine app1v _ _ 53 3 rfl int_slice int_info rfl (by omega) B0 _ (i + 1) _ rfl (own_fr (S:=[]) hO4 (by exact frP) (by simp)) w4.heap.size 1 rfl (.int .i64 ((Q : Int) + ((secB x).length : Int))) rfl (World.cell?_alloc_new _ _ _ 0) (by omega) (by simp;omega) (fun v5 w5 hO5 hF5=>?_)))
      go_roundg (c.blocks.length - (i + 1))
      case measure=>have:=HQ.out.1;omega
      case rel =>
        obtain ⟨hik,hgc,htk⟩:=HQ.out
        refine ⟨i + 1,Q + (secB x).length,by first|(rw [wrap64_1 (by omega)];done)|(simp;done),by omega,by first|rfl|(push_cast;rfl),?_,?_,?_⟩
        · show _ = _;rw [htk,hQ.out];omega
        · rw [placesL_succ,htk]
          have e1 : (headerB c.roots).length + ((secsB (c.blocks.take i)).length + (secB x).length) = Q + (secB x).length:=by rw [hQ.out];omega
          rw [e1]
          exact hO5
        · have hF14 : Fr [] wr w4:=Fr.trans (S:=[]) (Fr.alloc Fr.refl) hF4 (by simp)
          have hF45:=Fr.trans (w:=w4) (Fr.alloc Fr.refl) hF5 (fun k hk _=>hk)
          refine (hFr.trans hF14 (by simp)).trans hF45 ?_
          intro k hk hl
          have:=own_ge hO k hk
          omega
    · have hz : ¬ (i : Int) < (c.blocks.length : Int):=by omega
      have hie : i = c.blocks.length:=by omega
      have HI:=Lib.hid hie
      clear hie hik
      go_wp2
      obtain ⟨g,cp,rest,hv,hgb,hgB⟩:=own_rowS hO (by omega)
      subst hv
      go_ret
      refine ⟨g,⟨cp,by rw [HI.out];rfl⟩,by omega,hgB.lt,fun j hj=>?_,hFr⟩
      rw [hgB.cell,List.getElem?_append_left (by simp [placesL];have:=HI.out;omega)]
      have:=placesL_get (c:=c) (n:=i) (i:=j) (by have:=HI.out;omega)
      rw [this];rfl
end Go.Proofs.Wx

namespace Go.Proofs.Wx
open Go Go.RowKit
/-- The call answers a bool of which this holds. -/
def IsB (p : Bool → Prop) (e : Ending) : Prop:=∃ b,e = .returned (.bool b) ∧ p b
set_option maxRecDepth 1000000 in
set_option maxHeartbeats 12800000 in
theorem spTidy {w : World} {c : CidM} :
    Calls Tryz.prog 19 #[cidA c] w fun e w'=>IsB (fun b=>b = true → c.dig.length ≤ 200 → c.Ok) e ∧ Fr [] w w':=by
  by_cases h0 : c.v = 0
  · have z0 : (c.v : Int) = 0:=by omega
    by_cases h1 : c.codec = 112
    · have z1 : (c.codec : Int) = 112:=by omega
      by_cases h2 : c.code = 18
      · have z2 : (c.code : Int) = 18:=by omega
        have HH:=Lib.hid (And.intro h0 (And.intro h1 h2))
        clear h0 h1 h2
        unfold cidA
        go_enter Tryz.func19,Tryz.ntmps19
        go_wp2
        go_ret
        exact ⟨⟨_,rfl,(by intro h hl;simp at h;exact ⟨hl,.inl ⟨HH.out.1,HH.out.2.1,HH.out.2.2,by omega⟩⟩)⟩,by exact frP⟩
      · have z2 : ¬ (c.code : Int) = 18:=by omega
        clear h0 h1 h2
        unfold cidA
        go_enter Tryz.func19,Tryz.ntmps19
        go_wp2
        go_ret
        exact ⟨⟨_,rfl,(by intro h;cases h)⟩,by exact frP⟩
    · have z1 : ¬ (c.codec : Int) = 112:=by omega
      clear h0 h1
      unfold cidA
      go_enter Tryz.func19,Tryz.ntmps19
      go_wp2
      go_ret
      exact ⟨⟨_,rfl,(by intro h;cases h)⟩,by exact frP⟩
  · have z0 : ¬ (c.v : Int) = 0:=by omega
    by_cases h1 : c.v = 1
    · have z1 : (c.v : Int) = 1:=by omega
      by_cases h2 : c.codec < 9223372036854775808
      · have z2 : (c.codec : Int) < 9223372036854775808:=by omega
        have HH:=Lib.hid (And.intro h1 h2)
        clear h0 h1 h2
        unfold cidA
        go_enter Tryz.func19,Tryz.ntmps19
        go_wp2
        go_ret
        exact ⟨⟨_,rfl,(by intro h hl;simp at h;exact ⟨hl,.inr ⟨HH.out.1,HH.out.2,by omega⟩⟩)⟩,by exact frP⟩
      · have z2 : ¬ (c.codec : Int) < 9223372036854775808:=by omega
        clear h0 h1 h2
        unfold cidA
        go_enter Tryz.func19,Tryz.ntmps19
        go_wp2
        go_ret
        exact ⟨⟨_,rfl,(by intro h;cases h)⟩,by exact frP⟩
    · have z1 : ¬ (c.v : Int) = 1:=by omega
      clear h0 h1
      unfold cidA
      go_enter Tryz.func19,Tryz.ntmps19
      go_wp2
      go_ret
      exact ⟨⟨_,rfl,(by intro h;cases h)⟩,by exact frP⟩
theorem zzFits1 {w : World} {c : CidM} : Calls Tryz.prog 41 #[cidA c] w fun e w'=>IsB (fun _=>True) e ∧ Fr [] w w':=by
  unfold cidA
  by_cases h : (c.dig.length : Int) > 2147483647
  · go_enter Tryz.func41,Tryz.ntmps41
    go_wp2
    go_ret
    exact ⟨⟨_,rfl,trivial⟩,by exact frP⟩
  · go_enter Tryz.func41,Tryz.ntmps41
    go_wp2
    go_ret
    exact ⟨⟨_,rfl,trivial⟩,by exact frP⟩
theorem zzFits6 {w : World} {b : BlkM} : Calls Tryz.prog 42 #[blkA b] w fun e w'=>IsB (fun _=>True) e ∧ Fr [] w w':=by
  unfold blkA
  have h1:=fun w=>zzFits1 (w:=w) (c:=b.cid)
  unfold cidA at h1
  by_cases h : (b.data.length : Int) > 2147483647
  · go_enter Tryz.func42,Tryz.ntmps42
    go_wp2_with (first
      | go_at_call 41;(with_reducible refine (h1 _).mono ?_);rintro e w1 ⟨⟨b1,rfl,_⟩,hF1⟩;have hT:=hF1.blk (b:=w.heap.size) (Blk.newAt rfl) (by simp);have tc:=hT.cells;have hF : Fr [] w w1:=Fr.trans (S:=[]) (by exact frP) hF1 (by simp);(cases b1))
    all_goals (go_ret;exact ⟨⟨_,rfl,trivial⟩,by first|exact hF|exact frP⟩)
  · go_enter Tryz.func42,Tryz.ntmps42
    go_wp2_with (first
      | go_at_call 41;(with_reducible refine (h1 _).mono ?_);rintro e w1 ⟨⟨b1,rfl,_⟩,hF1⟩;have hT:=hF1.blk (b:=w.heap.size) (Blk.newAt rfl) (by simp);have tc:=hT.cells;have hF : Fr [] w w1:=Fr.trans (S:=[]) (by exact frP) hF1 (by simp);(cases b1))
    all_goals (go_ret;exact ⟨⟨_,rfl,trivial⟩,by first|exact hF|exact frP⟩)
def fitRel {α : Type} (w : World) (l : List α) (k : Nat) (s : Value) (wr : World) : Prop :=
  ∃ l1 l2,l = l1 ++ l2 ∧ l2.length = k ∧ s = .int .i64 l1.length ∧ Fr [] w wr
set_option maxRecDepth 1000000 in
set_option maxHeartbeats 12800000 in
theorem zzFits2 {w : World} {ad : Option Addr} {cap : Nat} {l : List CidM} (h : CidsAt w ad l) : Calls Tryz.prog 17 #[.slice ad l.length cap] w fun e w'=>IsB (fun _=>True) e ∧ Fr [] w w':=by
  have h1:=fun w c=>zzFits1 (w:=w) (c:=c)
  by_cases hb : (l.length : Int) > 2147483647
  · go_enter Tryz.func17,Tryz.ntmps17
    go_wp2
    go_ret
    exact ⟨⟨_,rfl,trivial⟩,by exact frP⟩
  · have hb2 : (l.length : Int) ≤ 2147483647:=by omega
    go_enter Tryz.func17,Tryz.ntmps17
    go_wp2
    go_loopg [10] l.length (fun k s wr=>fitRel w l k s wr)
    case atStart=>exact ⟨[],l,rfl,rfl,rfl,Fr.refl⟩
    case round =>
      obtain ⟨l1,l2,hll,hk,rfl,hFr⟩:=hrel
      cases l2 with
      | nil =>
        have hz : ¬ (l1.length : Int) < (l.length : Int):=by rw [hll];simp
        clear hll hk
        go_wp2
        go_ret
        exact ⟨⟨_,rfl,trivial⟩,hFr⟩
      | cons x l2 =>
        have hz : (l1.length : Int) < (l.length : Int):=by rw [hll];simp;omega
        have hgc : l[l1.length]? = some x:=by rw [hll];simp
        obtain ⟨b,o,rfl,x1,x2,x3,x4⟩:=(h.ext (Fr.ext hFr)) _ _ hgc
        have hl9 : l1.length + 1 ≤ l.length:=by rw [hll];simp
        have HQ:=Lib.hid (And.intro hll hk)
        clear hll hk hgc
        have h2:=fun w=>h1 w x
        unfold cidA at h2
        go_wp2_with (first
          | go_at_call 41;(with_reducible refine (h2 _).mono ?_);rintro e w4 ⟨⟨b1,rfl,_⟩,hF4⟩;have hF:=hFr.trans (Fr.trans (S:=[]) (by exact frP) hF4 (by simp)) (by simp);(cases b1))
        · go_ret
          exact ⟨⟨_,rfl,trivial⟩,hF⟩
        · go_roundg l2.length
          case measure=>have:=HQ.out.2;simp at this;omega
          case rel=>exact ⟨l1 ++ [x],l2,by rw [HQ.out.1];simp,rfl,by first|(rw [wrap64_1 (by omega)];simp;done)|(simp;done),hF⟩
set_option maxRecDepth 1000000 in
set_option maxHeartbeats 12800000 in
theorem zzFits5 {w : World} {ad : Option Addr} {cap : Nat} {l : List BlkM} (h : BlksAt w ad l) : Calls Tryz.prog 18 #[.slice ad l.length cap] w fun e w'=>IsB (fun _=>True) e ∧ Fr [] w w':=by
  have h1:=fun w c=>zzFits6 (w:=w) (b:=c)
  by_cases hb : (l.length : Int) > 2147483647
  · go_enter Tryz.func18,Tryz.ntmps18
    go_wp2
    go_ret
    exact ⟨⟨_,rfl,trivial⟩,by exact frP⟩
  · have hb2 : (l.length : Int) ≤ 2147483647:=by omega
    go_enter Tryz.func18,Tryz.ntmps18
    go_wp2
    go_loopg [10] l.length (fun k s wr=>fitRel w l k s wr)
    case atStart=>exact ⟨[],l,rfl,rfl,rfl,Fr.refl⟩
    case round =>
      obtain ⟨l1,l2,hll,hk,rfl,hFr⟩:=hrel
      cases l2 with
      | nil =>
        have hz : ¬ (l1.length : Int) < (l.length : Int):=by rw [hll];simp
        clear hll hk
        go_wp2
        go_ret
        exact ⟨⟨_,rfl,trivial⟩,hFr⟩
      | cons x l2 =>
        have hz : (l1.length : Int) < (l.length : Int):=by rw [hll];simp;omega
        have hgc : l[l1.length]? = some x:=by rw [hll];simp
        obtain ⟨b,o,rfl,x1,x2,x3,x4,x5⟩:=(h.ext (Fr.ext hFr)) _ _ hgc
        have hl9 : l1.length + 1 ≤ l.length:=by rw [hll];simp
        have HQ:=Lib.hid (And.intro hll hk)
        clear hll hk hgc
        have h2:=fun w=>h1 w x
        unfold blkA at h2
        go_wp2_with (first
          | go_at_call 42;(with_reducible refine (h2 _).mono ?_);rintro e w4 ⟨⟨b1,rfl,_⟩,hF4⟩;have hF:=hFr.trans (Fr.trans (S:=[]) (by exact frP) hF4 (by simp)) (by simp);(cases b1))
        · go_ret
          exact ⟨⟨_,rfl,trivial⟩,hF⟩
        · go_roundg l2.length
          case measure=>have:=HQ.out.2;simp at this;omega
          case rel=>exact ⟨l1 ++ [x],l2,by rw [HQ.out.1];simp,rfl,by first|(rw [wrap64_1 (by omega)];simp;done)|(simp;done),hF⟩
set_option maxRecDepth 1000000 in
set_option maxHeartbeats 12800000 in
theorem zzFits4 {w : World} {ra ba : Option Addr} {rc bc : Nat} {c : CarM} (h : CarAt w ra ba c) : Calls Tryz.prog 4 #[carA ra ba rc bc c] w fun e w'=>IsB (fun _=>True) e ∧ Fr [] w w':=by
  have h1:=fun (w' : World) (he : w.Ext w')=>zzFits2 (cap:=rc) (h.roots.ext he)
  have h2:=fun (w' : World) (he : w.Ext w')=>zzFits5 (cap:=bc) (h.blocks.ext he)
  unfold carA
  clear h
  go_enter Tryz.func4,Tryz.ntmps4
  go_wp2_with (first
    | go_at_call 17;refine (h1 _ (World.Ext.alloc _ _)).mono ?_;rintro e w1 ⟨⟨b1,rfl,_⟩,hF1⟩;have hT:=hF1.blk (b:=w.heap.size) (Blk.newAt rfl) (by simp);have tc:=hT.cells;have hF : Fr [] w w1:=Fr.trans (S:=[]) (by exact frP) hF1 (by simp);(cases b1)
    | go_at_call 18;refine (h2 _ (Fr.ext hF)).mono ?_;rintro e w2 ⟨⟨b2,rfl,_⟩,hF2⟩;replace hF:=hF.trans hF2 (by simp);(cases b2))
  all_goals (go_ret;exact ⟨⟨_,rfl,trivial⟩,hF⟩)
def wg1Rel (w : World) (l : List CidM) (k : Nat) (s : Value) (wr : World) : Prop :=
  ∃ l1 l2,l = l1 ++ l2 ∧ l2.length = k ∧ s = .int .i64 l1.length ∧ (∀ x ∈ l1,x.Ok) ∧ Fr [] w wr
def wg2Rel (w : World) (l : List BlkM) (k : Nat) (s : Value) (wr : World) : Prop :=
  ∃ l1 l2,l = l1 ++ l2 ∧ l2.length = k ∧ s = .int .i64 l1.length ∧ (∀ x ∈ l1,x.cid.Ok ∧ x.data.length ≤ 32768) ∧ Fr [] w wr
set_option maxRecDepth 1000000 in
set_option maxHeartbeats 12800000 in
theorem spGood {w : World} {ra ba : Option Addr} {rc bc : Nat} {c : CarM} (h : CarAt w ra ba c) : Calls Tryz.prog 5 #[carA ra ba rc bc c] w fun e w'=>IsB (fun b=>b = true → c.Ok) e ∧ Fr [] w w':=by
  unfold carA
  have hTi:=fun w c=>spTidy (w:=w) (c:=c)
  have HC:=Lib.hid h
  clear h
  by_cases hb1 : (c.roots.length : Int) > 50
  · go_enter Tryz.func5,Tryz.ntmps5
    go_wp2
    go_ret
    exact ⟨⟨_,rfl,by intro h;cases h⟩,by exact frP⟩
  by_cases hb2 : (c.blocks.length : Int) > 50
  · go_enter Tryz.func5,Tryz.ntmps5
    go_wp2
    go_ret
    exact ⟨⟨_,rfl,by intro h;cases h⟩,by exact frP⟩
  have hb3 : (c.roots.length : Int) ≤ 50:=by omega
  have hb4 : (c.blocks.length : Int) ≤ 50:=by omega
  have hT0 : Blk (w.alloc (.cells #[.slice ra c.roots.length rc,.slice ba c.blocks.length bc] 25)) w.heap.size [.slice ra c.roots.length rc,.slice ba c.blocks.length bc] 25 (0,0):=Blk.newAt rfl
  have hF0 : Fr [] w (w.alloc (.cells #[.slice ra c.roots.length rc,.slice ba c.blocks.length bc] 25)):=Fr.alloc Fr.refl
  go_enter Tryz.func5,Tryz.ntmps5
  go_wp2
  generalize w.alloc (.cells #[.slice ra c.roots.length rc,.slice ba c.blocks.length bc] 25) = w1 at *
  go_loopg [20] c.roots.length (fun k s wr=>wg1Rel w1 c.roots k s wr)
  case atStart=>exact ⟨[],c.roots,rfl,rfl,rfl,by simp,Fr.refl⟩
  case round =>
    obtain ⟨l1,l2,hll,hk,rfl,hg,hFr⟩:=hrel
    have hTr:=hFr.blk hT0 (by simp)
    have hFw:=hF0.trans hFr (by simp)
    cases l2 with
    | nil =>
      have hz : ¬ (l1.length : Int) < (c.roots.length : Int):=by rw [hll];simp
      have e1 : c.roots = l1:=by simpa using hll
      have HE:=Lib.hid (And.intro e1 hg)
      have tc:=hTr.cells
      clear hll hk e1 hg hT0 hF0
      go_wp2
      go_loopg [37] c.blocks.length (fun k s w2=>wg2Rel wr c.blocks k s w2)
      case atStart=>exact ⟨[],c.blocks,rfl,rfl,rfl,by simp,Fr.refl⟩
      case round =>
        rename World=>w3
        rename_i hold
        obtain ⟨l3,l4,hll,hk,rfl,hg2,hF3⟩:=hrel
        have hFx:=hFw.trans hF3 (by simp)
        cases l4 with
        | nil =>
          have hz2 : ¬ (l3.length : Int) < (c.blocks.length : Int):=by rw [hll];simp
          have e2 : c.blocks = l3:=by simpa using hll
          have HG:=Lib.hid (And.intro e2 hg2)
          clear hll hk e2 hg2
          go_wp2
          go_ret
          refine ⟨⟨_,rfl,fun _=>⟨by omega,by omega,?_,?_,?_⟩⟩,hFx⟩
          · rw [HE.out.1];exact HE.out.2
          · rw [HG.out.1];exact fun b hb=>(HG.out.2 b hb).1
          · rw [HG.out.1];exact fun b hb=>(HG.out.2 b hb).2
        | cons x l4 =>
          have hz2 : (l3.length : Int) < (c.blocks.length : Int):=by rw [hll];simp;omega
          have hgc : c.blocks[l3.length]? = some x:=by rw [hll];simp
          obtain ⟨b,o,rfl,x1,x2,x3,x4,x5⟩:=(HC.out.blocks.ext (Fr.ext hFx)) _ _ hgc
          have hl9 : l3.length + 1 ≤ c.blocks.length:=by rw [hll];simp
          have HQ:=Lib.hid (And.intro hll (And.intro hk hg2))
          clear hll hk hgc hg2
          by_cases hd : (x.cid.dig.length : Int) > 200
          · go_wp2
            go_ret
            exact ⟨⟨_,rfl,by intro h;cases h⟩,Fr.trans (S:=[]) (S':=[]) hFx (by exact frP) (by simp)⟩
          by_cases hd2 : (x.data.length : Int) > 32768
          · go_wp2
            go_ret
            exact ⟨⟨_,rfl,by intro h;cases h⟩,Fr.trans (S:=[]) (S':=[]) hFx (by exact frP) (by simp)⟩
          have hd3 : (x.cid.dig.length : Int) ≤ 200:=by omega
          have hd4 : (x.data.length : Int) ≤ 32768:=by omega
          have h2:=fun w=>hTi w x.cid
          unfold cidA at h2
          go_wp2_with (first
            | go_at_call 19;(with_reducible refine (h2 _).mono ?_);rintro e w4 ⟨⟨b1,rfl,hb⟩,hF4⟩;have hF:=hF3.trans (Fr.trans (S:=[]) (by exact frP) hF4 (by simp)) (by simp);(cases b1))
          · go_ret
            exact ⟨⟨_,rfl,by intro h;cases h⟩,hFw.trans hF (by simp)⟩
          · go_roundg l4.length
            case measure=>have:=HQ.out.2.1;simp at this;omega
            case rel =>
              refine ⟨l3 ++ [x],l4,by rw [HQ.out.1];simp,rfl,by first|(rw [wrap64_1 (by omega)];simp;done)|(simp;done),?_,hF⟩
              intro y hy
              rcases List.mem_append.1 hy with hy|hy
              · exact HQ.out.2.2 y hy
              · simp at hy;subst hy;exact ⟨hb (by trivial) (by omega),by omega⟩
    | cons x l2 =>
      have hz : (l1.length : Int) < (c.roots.length : Int):=by rw [hll];simp;omega
      have hgc : c.roots[l1.length]? = some x:=by rw [hll];simp
      obtain ⟨b,o,rfl,x1,x2,x3,x4⟩:=(HC.out.roots.ext (Fr.ext hFw)) _ _ hgc
      have hl9 : l1.length + 1 ≤ c.roots.length:=by rw [hll];simp
      have HQ:=Lib.hid (And.intro hll (And.intro hk hg))
      clear hll hk hgc hg hT0
      by_cases hd : (x.dig.length : Int) > 200
      · go_wp2
        go_ret
        exact ⟨⟨_,rfl,by intro h;cases h⟩,Fr.trans (S:=[]) (S':=[]) hFw (by exact frP) (by simp)⟩
      have hd3 : (x.dig.length : Int) ≤ 200:=by omega
      have h2:=fun w=>hTi w x
      unfold cidA at h2
      go_wp2_with (first
        | go_at_call 19;(with_reducible refine (h2 _).mono ?_);rintro e w4 ⟨⟨b1,rfl,hb⟩,hF4⟩;have hF:=hFr.trans (Fr.trans (S:=[]) (by exact frP) hF4 (by simp)) (by simp);(cases b1))
      · go_ret
        exact ⟨⟨_,rfl,by intro h;cases h⟩,hF0.trans hF (by simp)⟩
      · go_roundg l2.length
        case measure=>have:=HQ.out.2.1;simp at this;omega
        case rel =>
          refine ⟨l1 ++ [x],l2,by rw [HQ.out.1];simp,rfl,by first|(rw [wrap64_1 (by omega)];simp;done)|(simp;done),?_,hF⟩
          intro y hy
          rcases List.mem_append.1 hy with hy|hy
          · exact HQ.out.2.2 y hy
          · simp at hy;subst hy;exact hb (by trivial) (by omega)
end Go.Proofs.Wx

namespace Go.Proofs.Wx
open Go Go.RowKit
abbrev oRoLaw00 : List (Nat × Cls):=[(0,.free),(1,.free),(2,.look),(5,.free),(6,.free),(3,.act),(4,.free),(7,.free),(8,.free)]
set_option maxRecDepth 1000000 in
set_option maxHeartbeats 12800000 in
theorem raOther {w : World} {ra ba : Option Addr} {rc bc k d i : Nat} {c : CarM} (h : CarAt w ra ba c) (hx : c.blocks.length = 0 ∨ (k ≠ 1024 ∧ k ≠ 1025)) :
    Calls Tryz.prog 3 #[carA ra ba rc bc c,.int .u64 k,.int .u8 d,.int .u8 i] w fun e w'=>e = .returned (.bool true) ∧ Fr [] w w':=by
  have hfit:=fun (w' : World) (hF : Fr [] w w')=>zzFits4 (rc:=rc) (bc:=bc) (h.ext (Fr.ext hF))
  have hgood:=fun (w' : World) (hF : Fr [] w w')=>spGood (rc:=rc) (bc:=bc) (h.ext (Fr.ext hF))
  by_cases hb : c.blocks.length = 0
  · have hbz : (c.blocks.length : Int) = 0:=by omega
    clear h hx hb
    go_enter Tryz.func3,Tryz.ntmps3
    go_wp2_with (first
      | go_at_call 4;refine (hfit _ (by exact frP)).mono ?_;rintro e w1 ⟨⟨b1,rfl,hq1⟩,hF1⟩;have hF01 : Fr [] w w1:=Fr.trans (S:=[]) (S':=[]) (Fr.alloc Fr.refl) hF1 (by simp);have hT1:=hF1.blk (b:=w.heap.size) (cs:=[.slice ra c.roots.length rc,.slice ba c.blocks.length bc]) (T:=25) (fr:=(0,0)) Blk.new (by simp);have tc1:=hT1.cells;clear hq1 hF1
      | go_at_call 5;refine (hgood _ hF01).mono ?_;rintro e w2 ⟨⟨b2,rfl,hq2⟩,hF2⟩;have hF02:=hF01.trans hF2 (by simp);have hT2:=hF2.blk hT1 (by simp);have tc2:=hT2.cells;clear tc1 hF2 hT1;(cases b2)
      | (refine wre 15 oRoLaw00 ?_)
      | (with_reducible refine wEI ?_;(first|(refine wEN ?_;skip)|(refine wEF rfl (fun K hK=>?_);go_simp)|(refine wEL rfl rfl (fun K hK=>?_);go_simp)|(refine wER rfl (fun K hK=>?_);go_simp)|(refine wEM rfl (fun K hK=>?_);go_simp;try refine ⟨_,_,⟨rfl,rfl⟩,?_⟩)|(refine wEG rfl (fun K hK=>?_);go_simp)|(refine wEA rfl (fun K hK=>?_);go_simp))))
    · go_ret
      exact ⟨rfl,hF01⟩
    · go_ret
      exact ⟨rfl,hF02⟩
    · go_ret
      exact ⟨rfl,hF02⟩
  · have hbz : ¬ (c.blocks.length : Int) = 0:=by omega
    have hk1 : ((k : Int) != 1024) = true:=by simp;omega
    have hk2 : ((k : Int) != 1025) = true:=by simp;omega
    clear h hx hb
    go_enter Tryz.func3,Tryz.ntmps3
    go_wp2_with (first
      | go_at_call 4;refine (hfit _ (by exact frP)).mono ?_;rintro e w1 ⟨⟨b1,rfl,hq1⟩,hF1⟩;have hF01 : Fr [] w w1:=Fr.trans (S:=[]) (S':=[]) (Fr.alloc Fr.refl) hF1 (by simp);have hT1:=hF1.blk (b:=w.heap.size) (cs:=[.slice ra c.roots.length rc,.slice ba c.blocks.length bc]) (T:=25) (fr:=(0,0)) Blk.new (by simp);have tc1:=hT1.cells;clear hq1 hF1
      | go_at_call 5;refine (hgood _ hF01).mono ?_;rintro e w2 ⟨⟨b2,rfl,hq2⟩,hF2⟩;have hF02:=hF01.trans hF2 (by simp);have hT2:=hF2.blk hT1 (by simp);have tc2:=hT2.cells;clear tc1 hF2 hT1;(cases b2)
      | (refine wre 15 oRoLaw00 ?_)
      | (with_reducible refine wEI ?_;(first|(refine wEN ?_;skip)|(refine wEF rfl (fun K hK=>?_);go_simp)|(refine wEL rfl rfl (fun K hK=>?_);go_simp)|(refine wER rfl (fun K hK=>?_);go_simp)|(refine wEM rfl (fun K hK=>?_);go_simp;try refine ⟨_,_,⟨rfl,rfl⟩,?_⟩)|(refine wEG rfl (fun K hK=>?_);go_simp)|(refine wEA rfl (fun K hK=>?_);go_simp))))
    · go_ret
      exact ⟨rfl,hF01⟩
    · go_ret
      exact ⟨rfl,hF02⟩
    · go_ret
      exact ⟨rfl,hF02⟩
    · go_ret
      exact ⟨rfl,hF02⟩
end Go.Proofs.Wx

namespace Go.Proofs.Wx
open Go Go.RowKit
/-- p, of dynamic type T, is read by slices: the bytes xs; I w i: it stands at i. It lies in the blocks D, of which it turns S. -/
structure Src (T : TypeId) (p : Addr) (S D : List Nat) (xs : List UInt8) (I : World → Nat → Prop) (f : Nat) : Prop where
  ahead : ∀ w, (nilAhead 615 T (.pointer (some p)) "Read").run Tryz.prog w = .ok (some false) w
  meth : ∀ w, (method 615 T (.pointer (some p)) "Read").run Tryz.prog w = .ok (f, .pointer (some p)) w
  enter : ∀ w a,(callFunc f #[.pointer (some p),a]).run Tryz.prog w = .ok (.enter f #[.pointer (some p),a]) w
  call : ∀ w i pb po pl pc cs T',I w i → Blk w pb cs T' (0,0) → po + pl ≤ cs.length → pl < 1000000000000 → pb ∉ D → i + pl ≤ xs.length → 0 < pl →
    Calls Tryz.prog f #[.pointer (some p),.slice (some ⟨pb,po,none⟩) pl pc] w fun e w' =>
      e = .returned (.tuple #[.int .i64 pl,.nilIface]) ∧ I w' (i + pl) ∧ Blk w' pb (lay cs po ((xs.drop i).take pl)) T' (0,0) ∧ Fr (pb :: S) w w'
  fr : ∀ w w' S' i,I w i → Fr S' w w' → (∀ k ∈ S',k ∉ D) → I w' i
  lt : ∀ w i,I w i → ∀ k ∈ D,k < w.heap.size
  sub : ∀ k ∈ S,k ∈ D
section
variable {T : TypeId} {p : Addr} {S D : List Nat} {xs : List UInt8} {I : World → Nat → Prop} {f : Nat}
theorem readAtLeastS (hs : Src T p S D xs I f) {w : World} {i : Nat} (h : I w i)
    (pb po pl pc : Nat) (cs : List Value) (T' : TypeId) (hp : Blk w pb cs T' (0,0)) (hpl : po + pl ≤ cs.length) (hpc : pl < 1000000000000) (hD : pb ∉ D) (hi : i + pl ≤ xs.length) (h0 : 0 < pl) :
    Calls Tryz.prog 136 #[.iface T (.pointer (some p)),.slice (some ⟨pb,po,none⟩) pl pc,.int .i64 pl] w fun e w' =>
      e = .returned (.tuple #[.int .i64 pl,.nilIface]) ∧ I w' (i + pl) ∧ Blk w' pb (lay cs po ((xs.drop i).take pl)) T' (0,0) ∧ Fr (pb :: S) w w':=by
  have hc:=fun w' (hF : Fr [] w w')=>hs.call w' i pb po pl pc cs T' (hs.fr _ _ _ _ h hF (by simp)) (hF.blk hp (by simp)) hpl hpc hD hi h0
  have hah:=hs.ahead
  have hme:=hs.meth
  have hen:=hs.enter
  clear hs
  go_enter Tryz.func136,Tryz.ntmps136
  go_wp2_with (first
    | (with_reducible refine wp_loop_rounds 2 ?_);rw [rounds_succ]
    | (with_reducible rw [rounds_succ])
    | (with_reducible refine (hc _ (by exact frP)).mono ?_);rintro e w1 ⟨rfl,hR1,hB1,hF1⟩;replace hF1 : Fr (pb :: S) w w1:=Fr.trans (S:=pb :: S) (by exact frP) hF1 (fun k hk _=>hk)
    | (refine wre 2 [(0,.look),(1,.free),(2,.free)] ?_)
    | (refine wre 5 [(0,.free),(1,.free),(2,.free),(3,.free),(4,.free),(5,.free),(6,.free),(7,.act),(8,.free),(9,.free),(10,.free),(11,.free),(12,.free)] ?_)
    | (with_reducible refine wEI ?_;(first|(refine wEN ?_;skip)|(refine wEF rfl (fun K hK=>?_);go_simp)|(refine wEL rfl rfl (fun K hK=>?_);go_simp)|(refine wER rfl (fun K hK=>?_);go_simp)|(refine wEM rfl (fun K hK=>?_);go_simp;try refine ⟨_,_,⟨rfl,rfl⟩,?_⟩)|(refine wEG rfl (fun K hK=>?_);go_simp)|(refine wEA rfl (fun K hK=>?_);go_simp))))
  go_ret2
  exact ⟨rfl,hR1,hB1,hF1⟩
theorem readFullS (hs : Src T p S D xs I f) {w : World} {i : Nat} (h : I w i)
    (pb po pl pc : Nat) (cs : List Value) (T' : TypeId) (hp : Blk w pb cs T' (0,0)) (hpl : po + pl ≤ cs.length) (hpc : pl < 1000000000000) (hD : pb ∉ D) (hi : i + pl ≤ xs.length) :
    Calls Tryz.prog 115 #[.iface T (.pointer (some p)),.slice (some ⟨pb,po,none⟩) pl pc] w fun e w' =>
      e = .returned (.tuple #[.int .i64 pl,.nilIface]) ∧ I w' (i + pl) ∧ Blk w' pb (lay cs po ((xs.drop i).take pl)) T' (0,0) ∧ Fr (pb :: S) w w':=by
  rcases Nat.eq_zero_or_pos pl with h0|h0
  · subst h0
    go_enter Tryz.func115,Tryz.ntmps115
    go_wp2_with (first
      | go_at_call 136;refine (readAtLeast_zero _ _ ⟨_,_,rfl⟩).mono ?_;rintro e w1 ⟨rfl,rfl⟩)
    go_ret2
    exact ⟨rfl,h,hp.conv (by simp [lay,by8]),Fr.refl⟩
  · go_enter Tryz.func115,Tryz.ntmps115
    go_wp2_with (first
      | go_at_call 136;refine (readAtLeastS hs h pb po pl pc cs T' hp hpl hpc hD hi h0).mono ?_;rintro e w1 ⟨rfl,hR1,hB1,hF1⟩)
    go_ret2
    exact ⟨rfl,hR1,hB1,hF1⟩
end
end Go.Proofs.Wx
