import Derived.Test.YtdokbceiganhdaaGreatDoorM1
import Derived.Laws.Tables
import Derived.Lib.Varint
import Derived.Lib.AppendStr
import Derived.Deep.LoopGhost
import Derived.Lib.VarintBits
import Derived.IntWalk
set_option maxRecDepth 100000
set_option maxHeartbeats 1000000
set_option linter.unusedVariables false
set_option linter.unusedSimpArgs false
set_option linter.deprecated false
set_option linter.all false
set_option linter.unusedSectionVars false
namespace Go.Proofs.Wx
open Go
/-- The head of a CBOR item whose number is below 256. -/
def hdB (M n : Nat) : List UInt8:=if n < 24 then [UInt8.ofNat (M * 32 + n)] else [UInt8.ofNat (M * 32 + 24),UInt8.ofNat n]
def linkB (c : CidM) : List UInt8:=hdB 6 42 ++ (hdB 2 (c.bytes.length + 1) ++ 0 :: c.bytes)
def rootsB (l : List CidM) : List UInt8:=l.flatMap linkB
def sRoots : List UInt8:=[114,111,111,116,115]
def sVersion : List UInt8:=[118,101,114,115,105,111,110]
/-- The map of a header of version 1. -/
def hbB (l : List CidM) : List UInt8:=hdB 5 2 ++ (hdB 3 5 ++ (sRoots ++ (hdB 4 l.length ++ (rootsB l ++ (hdB 3 7 ++ (sVersion ++ hdB 0 1))))))
def headerB (l : List CidM) : List UInt8:=Lib.uvarint (hbB l).length ++ hbB l
structure BlkM where
  cid : CidM
  data : List UInt8
def BlkM.inner (b : BlkM) : List UInt8:=b.cid.bytes ++ b.data
def secB (b : BlkM) : List UInt8:=Lib.uvarint b.inner.length ++ b.inner
def secsB (l : List BlkM) : List UInt8:=l.flatMap secB
structure CarM where
  roots : List CidM
  blocks : List BlkM
def CarM.bytes (c : CarM) : List UInt8:=headerB c.roots ++ secsB c.blocks
structure CarM.Ok (c : CarM) : Prop where
  roots : c.roots.length ≤ 50
  blocks : c.blocks.length ≤ 50
  root : ∀ x ∈ c.roots,x.Ok
  cid : ∀ b ∈ c.blocks,b.cid.Ok
  data : ∀ b ∈ c.blocks,b.data.length ≤ 32768
theorem hdB_length (M n : Nat) : 1 ≤ (hdB M n).length ∧ (hdB M n).length ≤ 2:=by unfold hdB;split <;> simp
theorem linkB_length {c : CidM} (h : c.Ok) : (linkB c).length ≤ 230:=by
  have h1:=hdB_length 6 42
  have h2:=hdB_length 2 (c.bytes.length + 1)
  have:=h.le
  simp [linkB];omega
theorem rootsB_length : ∀ {l : List CidM},(∀ x ∈ l,x.Ok) → (rootsB l).length ≤ 230 * l.length
  | [],_=>by simp [rootsB]
  | c :: l,h=>by
    have h1:=linkB_length (h c (by simp))
    have h2:=rootsB_length (l:=l) fun x hx=>h x (by simp [hx])
    simp [rootsB] at *;omega
theorem hbB_length {l : List CidM} (hl : l.length ≤ 50) (h : ∀ x ∈ l,x.Ok) : (hbB l).length ≤ 12000 ∧ 1 ≤ (hbB l).length:=by
  have h1:=hdB_length 5 2
  have h2:=hdB_length 3 5
  have h3:=hdB_length 4 l.length
  have h4:=hdB_length 3 7
  have h5:=hdB_length 0 1
  have h6:=rootsB_length h
  simp [hbB,sRoots,sVersion];omega
theorem headerB_length {l : List CidM} (hl : l.length ≤ 50) (h : ∀ x ∈ l,x.Ok) : (headerB l).length ≤ 12002 ∧ 1 ≤ (headerB l).length:=by
  have h1:=hbB_length hl h
  have h2:=uv2 (n:=(hbB l).length) (by omega)
  simp [headerB];omega
theorem inner_length {b : BlkM} (h : b.cid.Ok) (hd : b.data.length ≤ 32768) : b.inner.length ≤ 32989 ∧ 3 ≤ b.inner.length:=by
  have:=h.le
  simp [BlkM.inner];omega
theorem uv3 {n : Nat} (h : n < 2097152) : (Lib.uvarint n).length ≤ 3:=Lib.uvarint_length 2 n (by omega)
theorem secB_length {b : BlkM} (h : b.cid.Ok) (hd : b.data.length ≤ 32768) : (secB b).length ≤ 32992 ∧ 3 ≤ (secB b).length:=by
  have h1:=inner_length h hd
  have:=uv3 (n:=b.inner.length) (by omega)
  simp [secB];omega
theorem secsB_length : ∀ {l : List BlkM},(∀ b ∈ l,b.cid.Ok) → (∀ b ∈ l,b.data.length ≤ 32768) → (secsB l).length ≤ 32992 * l.length
  | [],_,_=>by simp [secsB]
  | b :: l,h,hd=>by
    have h1:=secB_length (h b (by simp)) (hd b (by simp))
    have h2:=secsB_length (l:=l) (fun x hx=>h x (by simp [hx])) fun x hx=>hd x (by simp [hx])
    simp [secsB] at *;omega
theorem CarM.Ok.length {c : CarM} (h : c.Ok) : c.bytes.length ≤ 1700000 ∧ 1 ≤ c.bytes.length:=by
  have h1:=headerB_length h.roots h.root
  have h2:=secsB_length h.cid h.data
  have:=h.blocks
  simp [CarM.bytes];omega
/-- The entries of the index that is made of sections that begin at a place: those of identity hashes apart. -/
def entsAt : Nat → List BlkM → List (CidM × Nat)
  | _,[]=>[]
  | p,b :: l=>(if b.cid.code = 0 then [] else [(b.cid,p)]) ++ entsAt (p + (secB b).length) l
def CarM.ents (c : CarM) : List (CidM × Nat):=entsAt (headerB c.roots).length c.blocks
theorem entsAt_length : ∀ (p : Nat) (l : List BlkM),(entsAt p l).length ≤ l.length
  | _,[]=>by simp [entsAt]
  | p,b :: l=>by
    have:=entsAt_length (p + (secB b).length) l
    simp only [entsAt,List.length_append,List.length_cons]
    split <;> simp <;> omega
end Go.Proofs.Wx

namespace Go
section
variable {P : Program} {ops : Array Oper} {Q : Exit → Act → World → Prop}
theorem op_store (T : TypeId) {x y : Operand} {ds : Option Tmp} {ty : TypeId} {po : String} {af : Array Edge} {a : Act} {w : World} {K : Act → World → Prop} (h : Oper.wp P { dst:=ds,op:=.store T x y,type:=ty,pos:=po,after:=af,guard:=none } a w K Q) : Oper.wp P { dst:=ds,op:=.store T x y,type:=ty,pos:=po,after:=af,guard:=none } a w K Q:=h
theorem list_store (T : TypeId) {x y : Operand} {ds : Option Tmp} {ty : TypeId} {po : String} {af : Array Edge} {rest : List Oper} {a : Act} {w : World} (h : ∀ K : Act → World → Prop,(∀ a w,wpList P ops Q rest a w → K a w) → Oper.wp P { dst:=ds,op:=.store T x y,type:=ty,pos:=po,after:=af,guard:=none } a w K Q) : wpList P ops Q ({ dst:=ds,op:=.store T x y,type:=ty,pos:=po,after:=af,guard:=none } :: rest) a w:=wpList_plain rfl h
end
namespace Proofs.Wx
open Go.RowKit
/-- A whole struct is stored into its block. -/
theorem storeRow {o : Oper} {a : Act} {w : World} {K : Act → World → Prop} {Q : Exit → Act → World → Prop} (ty : TypeId) (x y : Operand) (ho : o.op = .store ty x y)
    (g : Nat) (cells : List Value) (hx : a.eval x = .pointer (some ⟨g,0,none⟩)) (hy : a.eval y = .agg cells.toArray) (t : TypeId) (old : List Value) (hg : Blk w g old t (0,0))
    (hi : (Tryz.prog.info? ty).map (·.size) = some cells.length) (hold : old.length = cells.length) (h1 : cells.all (·.oneCell') = true)
    (h : ∀ w',Blk w' g cells t (0,0) → Fr [g] w w' → K (a.put o.dst undef) w') : o.wp Tryz.prog a w K Q :=
  wp_store_row ty x y ho g cells.toArray hx hy t old.toArray hg (by simpa using hi) (by simpa using hold) (by simpa using h1) (h _ (Blk.setRow (cs':=cells) hg) (Fr.setRow (.inl (by simp)) Fr.refl))
end Proofs.Wx
end Go

namespace Go.Proofs.Wx
open Go Go.RowKit
abbrev oSp11 : List (Nat × Cls):=[(2,.free),(3,.look),(7,.free),(8,.look),(9,.free),(10,.look),(0,.grow),(1,.look),(4,.grow),(5,.look),(6,.free),(11,.grow),(12,.free),(13,.free)]
abbrev OwnB (base : Nat) (w : World) (v : Value) (xs : List UInt8) : Prop:=w.ownsRow base 5 1 v xs.length (by8 xs)
theorem OwnB.fr {base : Nat} {w w' : World} {v : Value} {xs : List UInt8} {S : List Nat} (h : OwnB base w v xs) (hf : Fr S w w') (hS : ∀ k ∈ S,k < base ∨ v.ownBlock ≠ some k) : OwnB base w' v xs:=own_fr h hf hS
theorem ownB_nil {base : Nat} {w : World} : OwnB base w (.slice none 0 0) []:=⟨by simp [by8],.inl ⟨rfl,rfl⟩⟩
theorem ownB_row {base : Nat} {w : World} {v : Value} {xs : List UInt8} (h : OwnB base w v xs) (h0 : xs ≠ []) : ∃ g c,v = .slice (some ⟨g,0,none⟩) xs.length c ∧ base ≤ g ∧ Bs w g 0 xs:=by
  rcases h.2 with ⟨_,h1⟩|⟨g,cap,cur,rfl,hb,hg,_,_,_,ht⟩
  · exact absurd (List.eq_nil_of_length_eq_zero h1) h0
  · refine ⟨g,cap,rfl,hb,?_⟩
    have : Blk w g cur.toList 5 (0,0):=hg
    have h2 : Blk w g (by8 xs ++ cur.toList.drop (xs.length * 1)) 5 (0,0):=this.conv (by rw [← ht,List.take_append_drop])
    exact Blk.bs (pre:=[]) (post:=cur.toList.drop (xs.length * 1)) h2 (by simp) rfl
theorem own_rowS {w : World} {base n size : Nat} {e : TypeId} {v : Value} {xs : List Value} (h : w.ownsRow base e size v n xs) (hv : 0 < n) : ∃ g c rest,v = .slice (some ⟨g,0,none⟩) n c ∧ base ≤ g ∧ Blk w g (xs ++ rest) e (0,0):=by
  rcases h.2 with ⟨rfl,h0⟩|⟨g,cap,cur,rfl,hb,hg,_,_,_,ht⟩
  · omega
  · refine ⟨g,cap,cur.toList.drop (n * size),rfl,hb,?_⟩
    have : Blk w g cur.toList e (0,0):=hg
    exact this.conv (by rw [← ht,List.take_append_drop])
/-- append of one byte that was just laid. -/
theorem app1 {o : Oper} {a : Act} {K : Act → World → Prop} {Q : Exit → Act → World → Prop} {w : World} (s x : Operand)
    (ho : o.op = .call { callee:=.builtin .append,args:=#[s,x],argTypes:=#[76,76] })
    (base : Nat) (v : Value) (xs : List UInt8) (hs : a.eval s = v) (hown : OwnB base w v xs) (b c : Nat) (hx : a.eval x = .slice (some ⟨b,0,none⟩) 1 c) (y : UInt8) (Y : Int) (hY : Y = (y.toNat : Nat)) (hc : w.cell? ⟨b,0,none⟩ = some (.int .u8 Y))
    (hl : xs.length < 1000000000) (hbase : base ≤ w.heap.size)
    (h : ∀ v' w',OwnB base w' v' (xs ++ [y]) → Fr v.ownBlock.toList w w' → K (a.put o.dst v') w') : o.wp Tryz.prog a w K Q:=by
  subst hY
  refine appOwn s x 76 ho base 5 (.int .u8 0) 1 1 u8_slice u8_info rfl (by omega) v xs.length (by8 xs) hs hown ⟨b,0,none⟩ 1 c [.int .u8 (y.toNat : Nat)] hx rfl ?_ (by intro u hu;simp at hu;subst hu;rfl) (by omega) (by omega) hbase (fun v' w' h1 h2=>h v' w' ?_ h2)
  · intro j u hu
    match j,hu with
    | 0,hu=>simp at hu;subst hu;rw [Addr.add_lit];exact hc
  · have:=h1
    rwa [show xs.length + 1 = (xs ++ [y]).length by simp,show by8 xs ++ [Value.int .u8 (y.toNat : Nat)] = by8 (xs ++ [y]) by simp [by8]] at this
theorem or128 (k : Nat) : bits .or .u8 ((k : Int) % 256) 128 = (((k % 128 + 128).toUInt8.toNat : Nat) : Int):=by
  rw [Lib.u8_or128_any _ (by omega) (by omega)]
  simp
  omega
def spuvRel (w : World) (n : Nat) (k : Nat) (s0 s3 : Value) (wr : World) : Prop :=
  ∃ done,s0 = .int .u64 (k : Nat) ∧ Lib.uvarint n = done ++ Lib.uvarint k ∧ OwnB w.heap.size wr s3 done ∧ Fr [] w wr
theorem spVarint {w : World} {n : Nat} (hn : n < 18446744073709551616) : Calls Tryz.prog 45 #[.int .u64 n] w fun e w'=>∃ g c,e = .returned (.slice (some ⟨g,0,none⟩) (Lib.uvarint n).length c) ∧ w.heap.size ≤ g ∧ Bs w' g 0 (Lib.uvarint n) ∧ Fr [] w w':=by
  go_enter Tryz.func45,Tryz.ntmps45
  go_wp2
  go_loopg [0,3] n (fun k s0 s3 wr=>spuvRel w n k s0 s3 wr)
  case atStart=>exact ⟨[],rfl,by simp,ownB_nil,Fr.refl⟩
  case round =>
    rename World=>wr
    obtain ⟨done,rfl,hd,hO,hF⟩:=hrel
    rename Nat=>k
    have hdl : done.length ≤ 10:=by have:=Lib.uvarint_length64 hn;rw [hd] at this;simp at this;omega
    have Hd:=Lib.hid hd
    clear hd
    by_cases hk : 128 ≤ k
    · have hkz : (128 : Int) ≤ (k : Int):=by omega
      have hW : IntKind.u8.wrap (k : Int) = (k : Int) % 256:=by simp [IntKind.wrap,IntKind.bits,IntKind.signed]
      go_wp2_with (first
        | ((with_reducible refine list_bi .append (fun K hK=>?_));  refine app1 _ _ rfl w.heap.size _ done rfl (hO.fr (S:=[]) (by exact frP) (by simp)) wr.heap.size 1 rfl (k % 128 + 128).toUInt8 _ (or128 k) (World.cell?_alloc_new _ _ _ 0) (by have:=hdl;omega) (by have:=hF.size;simp;omega) (fun v4 w4 hO4 hF4=>?_)))
      go_roundg (k / 128)
      case measure=>omega
      case rel =>
        refine ⟨done ++ [(k % 128 + 128).toUInt8],?_,?_,hO4,?_⟩
        · exact congrArg (Value.int .u64) (by omega)
        · rw [Hd.out,Lib.uvarint_big hk];simp
        · refine (hF.trans (Fr.trans (S:=u3.ownBlock.toList) (by exact frP) hF4 (fun k hk _=>hk)) ?_)
          intro k hk hl
          have:=own_ge hO k hk
          omega
    · have hkz : ¬ (128 : Int) ≤ (k : Int):=by omega
      have hW : IntKind.u8.wrap (k : Int) = (k : Int):=by simp [IntKind.wrap,IntKind.bits,IntKind.signed];omega
      go_wp2_with (first
        | ((with_reducible refine list_bi .append (fun K hK=>?_));  refine app1 _ _ rfl w.heap.size _ done rfl (hO.fr (S:=[]) (by exact frP) (by simp)) wr.heap.size 1 rfl k.toUInt8 _ (by simp;omega) (World.cell?_alloc_new _ _ _ 0) (by have:=hdl;omega) (by have:=hF.size;simp;omega) (fun v4 w4 hO4 hF4=>?_)))
      obtain ⟨g,c,rfl,hg,hB⟩:=ownB_row hO4 (by simp)
      go_ret
      rw [Hd.out,Lib.uvarint_small (by omega)]
      refine ⟨g,⟨c,rfl⟩,hg,hB,?_⟩
      refine (hF.trans (Fr.trans (S:=u3.ownBlock.toList) (by exact frP) hF4 (fun k hk _=>hk)) ?_)
      intro k hk hl
      have:=own_ge hO k hk
      omega
@[go_sem] theorem bcat (xs ys : List UInt8) : (⟨xs.toArray⟩ : ByteArray) ++ ⟨ys.toArray⟩ = ⟨(xs ++ ys).toArray⟩:=by
  apply ByteArray.ext
  simp
set_option maxRecDepth 1000000 in
set_option maxHeartbeats 12800000 in
theorem spMh {w : World} {code : Nat} {dig : List UInt8} (hc : code < 18446744073709551616) (hd : dig.length < 1000000000) :
    Calls Tryz.prog 79 #[.int .u64 code,.string ⟨dig.toArray⟩] w fun e w'=>e = .returned (.string ⟨(mhB code dig).toArray⟩) ∧ Fr [] w w':=by
  have wL : IntKind.u64.wrap (dig.length : Int) = (dig.length : Int):=by simp [IntKind.wrap,IntKind.bits,IntKind.signed];omega
  have hu1:=Lib.uvarint_length64 hc
  have hu2:=Lib.uvarint_length64 (x:=dig.length) (by omega)
  have h1:=fun w=>spVarint (w:=w) hc
  have h2:=fun w=>spVarint (w:=w) (n:=dig.length) (by omega)
  go_enter Tryz.func79,Tryz.ntmps79
  go_wp2_with (first
    | go_at_call 45;refine (h1 _).mono ?_;rintro e w1 ⟨g1,c1,rfl,hg1,hB1,hF1⟩;(try go_simp);refine hK _ _ (Fr.ext hF1) ?_;clear h1
    | (with_reducible refine wEI ?_);(refine wpE_str _ rfl rfl rfl hB1 rfl rfl ?_);(try go_simp);clear hB1
    | go_at_call 45;refine (h2 _).mono ?_;rintro e w2 ⟨g2,c2,rfl,hg2,hB2,hF2⟩;(try go_simp);refine hK _ _ (Fr.ext hF2) ?_;clear h2
    | (with_reducible refine wEI ?_);(refine wpE_str _ rfl rfl rfl hB2 rfl rfl ?_);(try go_simp);clear hB2
    | (refine wre 1 [(0,.free),(3,.free),(4,.free),(5,.free),(9,.free),(1,.grow),(2,.look),(6,.grow),(7,.look),(8,.free),(10,.free),(11,.free)] ?_)
    | (with_reducible refine wEI ?_;(first|(refine wEN ?_;skip)|(refine wEF rfl (fun K hK=>?_);go_simp)|(refine wEL rfl rfl (fun K hK=>?_);go_simp)|(refine wER rfl (fun K hK=>?_);go_simp)|(refine wEM rfl (fun K hK=>?_);go_simp;try refine ⟨_,_,⟨rfl,rfl⟩,?_⟩)|(refine wEG rfl (fun K hK=>?_);go_simp)|(refine wEA rfl (fun K hK=>?_);go_simp))))
  go_ret
  refine ⟨by simp [mhB],?_⟩
  exact (Fr.trans (S:=[]) (Fr.drew Fr.refl) hF1 (by simp)).trans hF2 (by simp)
def cidA (c : CidM) : Value:=.agg #[.int .u64 c.v,.int .u64 c.codec,.int .u64 c.code,.string ⟨c.dig.toArray⟩]
structure CidM.Ok1 (c : CidM) : Prop where
  v : c.v < 18446744073709551616
  codec : c.codec < 18446744073709551616
  code : c.code < 18446744073709551616
  dig : c.dig.length < 1000000000
set_option maxRecDepth 1000000 in
set_option maxHeartbeats 12800000 in
theorem spCidBytes {w : World} {c : CidM} (hok : c.Ok1) : Calls Tryz.prog 46 #[cidA c] w fun e w'=>e = .returned (.string ⟨c.bytes.toArray⟩) ∧ Fr [] w w':=by
  obtain ⟨hv,hcd,hc,hd⟩:=hok
  have hu1:=Lib.uvarint_length64 hcd
  have hm : (mhB c.code c.dig).length ≤ 1000000020:=by have:=Lib.uvarint_length64 hc;have:=Lib.uvarint_length64 (x:=c.dig.length) (by omega);simp [mhB];omega
  have h1:=fun w=>spVarint (w:=w) (n:=1) (by omega)
  have h2:=fun w=>spVarint (w:=w) hcd
  have h3:=fun w=>spMh (w:=w) hc hd
  rw [uv1] at h1
  by_cases h0 : c.v = 0
  · have hz : (c.v : Int) = 0:=by omega
    have hb : c.bytes = mhB c.code c.dig:=by unfold CidM.bytes;rw [if_pos h0]
    rw [hb]
    clear h0 hb
    unfold cidA
    go_enter Tryz.func46,Tryz.ntmps46
    go_wp2_with (first
      | go_at_call 79;refine (h3 _).mono ?_;rintro e w3 ⟨rfl,hF3⟩
      | (refine wre 3 oSp11 ?_)
      | (with_reducible refine wEI ?_;(first|(refine wEN ?_;skip)|(refine wEF rfl (fun K hK=>?_);go_simp)|(refine wEL rfl rfl (fun K hK=>?_);go_simp)|(refine wER rfl (fun K hK=>?_);go_simp)|(refine wEM rfl (fun K hK=>?_);go_simp;try refine ⟨_,_,⟨rfl,rfl⟩,?_⟩)|(refine wEG rfl (fun K hK=>?_);go_simp)|(refine wEA rfl (fun K hK=>?_);go_simp))))
    go_ret
    exact ⟨rfl,Fr.trans (S:=[]) (by exact frP) hF3 (by simp)⟩
  · have hz : ¬ (c.v : Int) = 0:=by omega
    have hb : c.bytes = [1] ++ (Lib.uvarint c.codec ++ mhB c.code c.dig):=by unfold CidM.bytes;rw [if_neg h0,uv1]
    rw [hb]
    clear h0 hb
    unfold cidA
    go_enter Tryz.func46,Tryz.ntmps46
    go_wp2_with (first
      | go_at_call 45;refine (h1 _).mono ?_;rintro e w1 ⟨g1,c1,rfl,hg1,hB1,hF1⟩;(try go_simp);refine hK _ _ (Fr.ext hF1) ?_;clear h1
      | (with_reducible refine wEI ?_);(refine wpE_str _ rfl rfl rfl hB1 rfl rfl ?_);(try go_simp);clear hB1
      | go_at_call 45;refine (h2 _).mono ?_;rintro e w2 ⟨g2,c2,rfl,hg2,hB2,hF2⟩;(try go_simp);refine hK _ _ (Fr.ext hF2) ?_;clear h2
      | (with_reducible refine wEI ?_);(refine wpE_str _ rfl rfl rfl hB2 rfl rfl ?_);(try go_simp);clear hB2
      | go_at_call 79;refine (h3 _).mono ?_;rintro e w3 ⟨rfl,hF3⟩;(try go_simp);refine hK _ _ (Fr.ext hF3) ?_;clear h3
      | (refine wre 3 oSp11 ?_)
      | (with_reducible refine wEI ?_;(first|(refine wEN ?_;skip)|(refine wEF rfl (fun K hK=>?_);go_simp)|(refine wEL rfl rfl (fun K hK=>?_);go_simp)|(refine wER rfl (fun K hK=>?_);go_simp)|(refine wEM rfl (fun K hK=>?_);go_simp;try refine ⟨_,_,⟨rfl,rfl⟩,?_⟩)|(refine wEG rfl (fun K hK=>?_);go_simp)|(refine wEA rfl (fun K hK=>?_);go_simp))))
    go_ret
    refine ⟨by simp,?_⟩
    exact ((Fr.trans (S:=[]) (by exact frP) hF1 (by simp)).trans hF2 (by simp)).trans hF3 (by simp)
end Go.Proofs.Wx

namespace Go.Proofs.Wx
open Go Go.RowKit
abbrev oRd0 : List (Nat × Cls):=[(0,.free),(1,.free),(2,.free),(3,.look),(4,.free),(5,.free),(6,.free),(7,.look),(8,.free),(9,.free)]
abbrev oRd1 : List (Nat × Cls):=[(0,.look),(1,.free),(2,.free)]
abbrev oRd2 : List (Nat × Cls):=[(0,.free),(1,.free),(2,.free),(3,.look),(4,.free),(5,.free),(6,.free),(7,.look),(8,.free),(9,.look),(10,.free)]
abbrev oRd3 : List (Nat × Cls):=[(0,.free),(1,.free),(2,.free),(3,.free),(4,.look),(5,.free),(6,.free),(7,.free),(8,.look),(9,.free),(10,.act),(11,.free)]
/-- io.EOF, ErrAlreadyV1 as they lie. -/
structure Gl (ea : Addr) (w : World) : Prop where
  size : 28 ≤ w.heap.size
  eof : w.cell? ⟨2,0,none⟩ = some (.iface 223 (.pointer (some ea)))
abbrev EOF (ea : Addr) : Value:=.iface 223 (.pointer (some ea))
theorem Gl.fr {ea : Addr} {w w' : World} {S : List Nat} (h : Gl ea w) (hf : Fr S w w') (hn : ∀ k ∈ S,28 ≤ k) : Gl ea w' :=
  ⟨Nat.le_trans h.size hf.size,by
    rw [World.cell?_of_block (w:=w) (hf.block _ (by have:=h.size;show 2 < _;omega) (fun hm=>by have:=hn _ hm;change 28 ≤ 2 at this;omega))];exact h.eof⟩
/-- r is a bytes.Reader over xs (block sb), standing at i. -/
def Rdr (w : World) (r sb : Nat) (xs : List UInt8) (i : Nat) : Prop:=∃ so sc pr,
  Blk w r [.slice (some ⟨sb,so,none⟩) xs.length sc,.int .i64 i,.int .i64 pr] 106 (0,0) ∧ r ≠ sb ∧ Bs w sb so xs ∧ xs.length ≤ sc ∧ (xs.length < 1000000000000 ∧ sc ≤ 9223372036854775807) ∧ i < 1000000000000 ∧ 28 ≤ r
theorem Rdr.fr {w w' : World} {S : List Nat} {r sb : Nat} {xs : List UInt8} {i : Nat} (h : Rdr w r sb xs i) (hf : Fr S w w') (hr : r ∉ S) (hs : sb ∉ S) : Rdr w' r sb xs i:=by
  obtain ⟨so,sc,pr,h1,h2,h3,h4⟩:=h
  exact ⟨so,sc,pr,hf.blk h1 hr,h2,h3.fr hf hs,h4⟩
theorem Rdr.lt {w : World} {r sb : Nat} {xs : List UInt8} {i : Nat} (h : Rdr w r sb xs i) : r < w.heap.size ∧ sb < w.heap.size:=by
  obtain ⟨so,sc,pr,h1,h2,h3,h4⟩:=h;exact ⟨h1.lt,h3.lt⟩
theorem Rdr.ge {w : World} {r sb : Nat} {xs : List UInt8} {i : Nat} (h : Rdr w r sb xs i) : 28 ≤ r:=by
  obtain ⟨so,sc,pr,h1,h2,h3,h4,h5,h6,h7⟩:=h;exact h7
theorem readByte_more {w : World} {r sb : Nat} {xs : List UInt8} {i : Nat} (h : Rdr w r sb xs i) (hi : i < xs.length) :
    Calls Tryz.prog 255 #[.pointer (some ⟨r,0,none⟩)] w fun e w'=>e = .returned (.tuple #[.int .u8 (xs[i].toNat : Nat),.nilIface]) ∧ Rdr w' r sb xs (i + 1) ∧ Fr [r] w w':=by
  obtain ⟨so,sc,pr,hB,hne,hS,hl,hl2,hi2,hg⟩:=h
  have hc:=hB.cells
  have hf:=hB.free
  have hx:=hS.cell i hi
  have hne':=Ne.symm hne
  go_enter Tryz.func255,Tryz.ntmps255
  go_wp2_with (first
    | (refine wre 2 oRd0 ?_)
    | (refine wre 3 oRd1 ?_)
    | (refine wre 4 oRd2 ?_)
    | (with_reducible refine wEI ?_;(first|(refine wEN ?_;skip)|(refine wEF rfl (fun K hK=>?_);go_simp)|(refine wEL rfl rfl (fun K hK=>?_);go_simp)|(refine wER rfl (fun K hK=>?_);go_simp)|(refine wEM rfl (fun K hK=>?_);go_simp;try refine ⟨_,_,⟨rfl,rfl⟩,?_⟩)|(refine wEG rfl (fun K hK=>?_);go_simp)|(refine wEA rfl (fun K hK=>?_);go_simp))))
  go_ret2
  refine ⟨rfl,and_of (by exact frP) fun hF=>⟨so,sc,-1,?_,hne,hS.fr hF (by simp [hne']),hl,hl2,by omega,hg⟩⟩
  exact blkP
theorem read_more {w : World} {r sb : Nat} {xs : List UInt8} {i : Nat} (h : Rdr w r sb xs i) (hi : i < xs.length)
    (pb po pl pc : Nat) (cs : List Value) (T : TypeId) (hp : Blk w pb cs T (0,0)) (hpl : po + pl ≤ cs.length) (hpc : pl < 1000000000000) (hpr : pb ≠ r) (hps : pb ≠ sb) :
    Calls Tryz.prog 254 #[.pointer (some ⟨r,0,none⟩),.slice (some ⟨pb,po,none⟩) pl pc] w fun e w' =>
      e = .returned (.tuple #[.int .i64 (((xs.drop i).take pl).length : Nat),.nilIface]) ∧ Rdr w' r sb xs (i + ((xs.drop i).take pl).length) ∧ Blk w' pb (lay cs po ((xs.drop i).take pl)) T (0,0) ∧ Fr [r,pb] w w':=by
  obtain ⟨so,sc,pr,hB,hne,hS,hl,hl2,hi2,hg⟩:=h
  have hc:=hB.cells
  have hf:=hB.free
  have hne':=Ne.symm hne
  have hX:=(hS.drop i).take pl
  have hlen : ((xs.drop i).take pl).length = Nat.min (xs.length - i) pl:=by rw [List.length_take,List.length_drop];exact Nat.min_comm _ _
  have hXi : i + ((xs.drop i).take pl).length ≤ xs.length:=by simp;omega
  generalize (xs.drop i).take pl = X at *
  have hXl : X.length ≤ 1000000000000:=by rw [hlen];exact Nat.le_trans (Nat.min_le_right _ _) (by omega)
  have hXp : X.length ≤ pl:=by rw [hlen];exact Nat.min_le_right _ _
  have hsi : ¬ sc = i:=by omega
  have HL:=Lib.hid hlen
  clear hlen
  go_enter Tryz.func254,Tryz.ntmps254
  go_wp2_with (first
    | (with_reducible refine list_bi .copy (fun K hK=>?_);  refine copyB _ _ 76 76 rfl 5 (by kernel_rfl) (by kernel_rfl) _ _ _ _ _ _ _ _ rfl rfl cs T (by exact blkP) X (hX.fr (S:=[r]) (by exact frP) (by simp [hne'])) HL.out (by omega) (fun w1 hb1 hf1=>?_);have hB1 : Blk w1 r [.slice (some ⟨sb,so,none⟩) xs.length sc,.int .i64 i,.int .i64 (-1)] 106 (0,0):=hf1.blk (by exact blkP) (by simp [Ne.symm hpr]);have hF1 : Fr [r,pb] w w1:=Fr.trans (S:=[r,pb]) (by exact frP) hf1 (by simp);clear hf1;have hc1:=hB1.cells;have hfr1:=hB1.free;clear hc hf)
    | (refine wre 1 oRd0 ?_)
    | (refine wre 2 oRd1 ?_)
    | (refine wre 4 oRd3 ?_)
    | (with_reducible refine wEI ?_;(first|(refine wEN ?_;skip)|(refine wEF rfl (fun K hK=>?_);go_simp)|(refine wEL rfl rfl (fun K hK=>?_);go_simp)|(refine wER rfl (fun K hK=>?_);go_simp)|(refine wEM rfl (fun K hK=>?_);go_simp;try refine ⟨_,_,⟨rfl,rfl⟩,?_⟩)|(refine wEG rfl (fun K hK=>?_);go_simp)|(refine wpE_actp rfl rfl (fun K hK=>?_);simp only [List.getElem_toArray,List.getElem_cons_succ,List.getElem_cons_zero];(first|(with_reducible refine op_bi .copy ?_;  refine copyB _ _ 76 76 rfl 5 (by kernel_rfl) (by kernel_rfl) _ _ _ _ _ _ _ _ rfl rfl cs T (by exact blkP) X (hX.fr (S:=[r]) (by exact frP) (by simp [hne'])) HL.out (by omega) (fun w1 hb1 hf1=>?_);have hB1 : Blk w1 r [.slice (some ⟨sb,so,none⟩) xs.length sc,.int .i64 i,.int .i64 (-1)] 106 (0,0):=hf1.blk (by exact blkP) (by simp [Ne.symm hpr]);have hF1 : Fr [r,pb] w w1:=Fr.trans (S:=[r,pb]) (by exact frP) hf1 (by simp);clear hf1;have hc1:=hB1.cells;have hfr1:=hB1.free;clear hc hf)))|(refine wEA rfl (fun K hK=>?_);go_simp))))
  go_ret2
  refine ⟨rfl,and_of (and_of (by exact frP) fun hF=>?_) fun hF=>⟨so,sc,-1,?_,hne,hS.fr hF.2 (by simp [hne',Ne.symm hps]),hl,hl2,by omega,hg⟩⟩
  all_goals exact blkP
theorem seek_any {w : World} {r sb : Nat} {xs : List UInt8} {i : Nat} (h : Rdr w r sb xs i) (n wh j : Nat) (hj : j < 1000000000000) (hwh : (wh = 0 ∧ j = n) ∨ (wh = 1 ∧ j = i + n) ∨ (wh = 2 ∧ j = xs.length + n)) :
    Calls Tryz.prog 256 #[.pointer (some ⟨r,0,none⟩),.int .i64 n,.int .i64 wh] w fun e w'=>e = .returned (.tuple #[.int .i64 j,.nilIface]) ∧ Rdr w' r sb xs j ∧ Fr [r] w w':=by
  obtain ⟨so,sc,pr,hB,hne,hS,hl,hl2,hi2,hg⟩:=h
  have hc:=hB.cells
  have hf:=hB.free
  rcases hwh with ⟨rfl,rfl⟩|⟨rfl,rfl⟩|⟨rfl,rfl⟩
  all_goals
    go_enter Tryz.func256,Tryz.ntmps256
    go_wp2
    go_ret2
    refine ⟨by simp,and_of (by exact frP) fun hF=>⟨so,sc,-1,?_,hne,hS.fr hF (by simp [Ne.symm hne]),hl,hl2,by omega,hg⟩⟩
    exact blkP
theorem newReader {w : World} {sb so sc : Nat} {xs : List UInt8} (hS : Bs w sb so xs) (hl : xs.length ≤ sc) (h2 : xs.length < 1000000000000 ∧ sc ≤ 9223372036854775807) (hg : 28 ≤ w.heap.size) :
    Calls Tryz.prog 33 #[.slice (some ⟨sb,so,none⟩) xs.length sc] w fun e w'=>e = .returned (.pointer (some ⟨w.heap.size,0,none⟩)) ∧ Rdr w' w.heap.size sb xs 0 ∧ Fr [] w w':=by
  have hlt:=hS.lt
  go_enter Tryz.func33,Tryz.ntmps33
  go_wp2
  go_ret
  refine ⟨rfl,and_of (by exact frP) fun hF=>⟨so,sc,-1,Blk.new,by omega,hS.fr hF (by simp),hl,h2,by omega,hg⟩⟩
end Go.Proofs.Wx

namespace Go.Proofs.Wx
open Go Go.RowKit
def ifacePtr (P : Program) (t tx : TypeId) : Bool :=
  match P.underlying t,P.underlying tx,P.info? tx with
  | some (.interface _),some (.pointer e),some i=>i.comparable && (P.info? e).isSome
  | _,_,_=>false
theorem run_eql_iface_same {P : Program} (w : World) {t tx : TypeId} (a : Addr) (h : ifacePtr P t tx = true) :
    (binOp .eql t (.iface tx (.pointer (some a))) (.iface tx (.pointer (some a)))).run P w = .ok (.bool true) w:=by
  unfold ifacePtr at h
  split at h <;> rename_i ht hx hi
  · simp only [Bool.and_eq_true] at h
    obtain ⟨hcc,h2⟩:=h
    obtain ⟨j,hj⟩:=Option.isSome_iff_exists.1 h2
    have h : ∀ d : Nat,(Op.equalIn (d + 2) t (.iface tx (.pointer (some a))) (.iface tx (.pointer (some a)))).run P w = .ok true w:=fun d=>by
      rw [Op.equalIn]
      simp [run_underlying ht,typeInfo,hi,hcc]
      rw [Op.equalIn]
      simp [run_underlying hx,sizeOf,typeInfo,hj,sameAddr]
    simp only [binOp]
    simp [Op.equal,Op.maxDepth,h 9998]
  · cases h
@[go_sem] theorem eq_err (a : Addr) (w : World) : (binOp .eql 71 (.iface 223 (.pointer (some a))) (.iface 223 (.pointer (some a)))).run Tryz.prog w = .ok (.bool true) w :=
  run_eql_iface_same w _ (by kernel_rfl)
@[go_sem] theorem ta_rd_byteReader (a : Addr) (w : World) : (Instr.typeAssert (.iface 74 (.pointer (some a))) 98 253 true).run Tryz.prog w = .ok (.tuple #[.iface 74 (.pointer (some a)),.bool true]) w:=by kernel_rfl
@[go_sem] theorem ta_rd_byteReadSeeker (a : Addr) (w : World) : (Instr.typeAssert (.iface 74 (.pointer (some a))) 98 173 true).run Tryz.prog w = .ok (.tuple #[.iface 74 (.pointer (some a)),.bool true]) w:=by kernel_rfl
@[go_sem] theorem ahead_bytes_Reader_Read (a : Addr) (w : World) : (nilAhead 615 74 (.pointer (some a)) "Read").run Tryz.prog w = .ok (some false) w := by kernel_rfl
@[go_sem] theorem meth_bytes_Reader_Read (a : Addr) (w : World) : (method 615 74 (.pointer (some a)) "Read").run Tryz.prog w = .ok (254, .pointer (some a)) w := by kernel_rfl
@[go_sem] theorem ahead_bytes_Reader_ReadByte (a : Addr) (w : World) : (nilAhead 615 74 (.pointer (some a)) "ReadByte").run Tryz.prog w = .ok (some false) w := by kernel_rfl
@[go_sem] theorem meth_bytes_Reader_ReadByte (a : Addr) (w : World) : (method 615 74 (.pointer (some a)) "ReadByte").run Tryz.prog w = .ok (255, .pointer (some a)) w := by kernel_rfl
@[go_sem] theorem ahead_bytes_Reader_Seek (a : Addr) (w : World) : (nilAhead 615 74 (.pointer (some a)) "Seek").run Tryz.prog w = .ok (some false) w := by kernel_rfl
@[go_sem] theorem meth_bytes_Reader_Seek (a : Addr) (w : World) : (method 615 74 (.pointer (some a)) "Seek").run Tryz.prog w = .ok (256, .pointer (some a)) w := by kernel_rfl
@[go_sem] theorem ahead_bytes_Reader_UnreadByte (a : Addr) (w : World) : (nilAhead 615 74 (.pointer (some a)) "UnreadByte").run Tryz.prog w = .ok (some false) w := by kernel_rfl
@[go_sem] theorem meth_bytes_Reader_UnreadByte (a : Addr) (w : World) : (method 615 74 (.pointer (some a)) "UnreadByte").run Tryz.prog w = .ok (437, .pointer (some a)) w := by kernel_rfl
@[go_sem] theorem ahead_bytes_Reader_Len (a : Addr) (w : World) : (nilAhead 615 74 (.pointer (some a)) "Len").run Tryz.prog w = .ok (some false) w := by kernel_rfl
@[go_sem] theorem meth_bytes_Reader_Len (a : Addr) (w : World) : (method 615 74 (.pointer (some a)) "Len").run Tryz.prog w = .ok (253, .pointer (some a)) w := by kernel_rfl
@[go_sem] theorem ahead_bytes_Buffer_Write (a : Addr) (w : World) : (nilAhead 615 86 (.pointer (some a)) "Write").run Tryz.prog w = .ok (some false) w := by kernel_rfl
@[go_sem] theorem meth_bytes_Buffer_Write (a : Addr) (w : World) : (method 615 86 (.pointer (some a)) "Write").run Tryz.prog w = .ok (262, .pointer (some a)) w := by kernel_rfl
@[go_sem] theorem ahead_cid_bufByteReader_ReadByte (a : Addr) (w : World) : (nilAhead 615 256 (.pointer (some a)) "ReadByte").run Tryz.prog w = .ok (some false) w := by kernel_rfl
@[go_sem] theorem meth_cid_bufByteReader_ReadByte (a : Addr) (w : World) : (method 615 256 (.pointer (some a)) "ReadByte").run Tryz.prog w = .ok (391, .pointer (some a)) w := by kernel_rfl
@[go_sem] theorem ahead_index_MultihashIndexSorted_Codec (a : Addr) (w : World) : (nilAhead 615 170 (.pointer (some a)) "Codec").run Tryz.prog w = .ok (some false) w := by kernel_rfl
@[go_sem] theorem meth_index_MultihashIndexSorted_Codec (a : Addr) (w : World) : (method 615 170 (.pointer (some a)) "Codec").run Tryz.prog w = .ok (280, .pointer (some a)) w := by kernel_rfl
@[go_sem] theorem ahead_index_MultihashIndexSorted_Load (a : Addr) (w : World) : (nilAhead 615 170 (.pointer (some a)) "Load").run Tryz.prog w = .ok (some false) w := by kernel_rfl
@[go_sem] theorem meth_index_MultihashIndexSorted_Load (a : Addr) (w : World) : (method 615 170 (.pointer (some a)) "Load").run Tryz.prog w = .ok (282, .pointer (some a)) w := by kernel_rfl
@[go_sem] theorem ahead_index_MultihashIndexSorted_Marshal (a : Addr) (w : World) : (nilAhead 615 170 (.pointer (some a)) "Marshal").run Tryz.prog w = .ok (some false) w := by kernel_rfl
@[go_sem] theorem meth_index_MultihashIndexSorted_Marshal (a : Addr) (w : World) : (method 615 170 (.pointer (some a)) "Marshal").run Tryz.prog w = .ok (283, .pointer (some a)) w := by kernel_rfl
@[go_sem] theorem ahead_impl_memory_Write (a : Addr) (w : World) : (nilAhead 615 89 (.pointer (some a)) "Write").run Tryz.prog w = .ok (some false) w := by kernel_rfl
@[go_sem] theorem meth_impl_memory_Write (a : Addr) (w : World) : (method 615 89 (.pointer (some a)) "Write").run Tryz.prog w = .ok (273, .pointer (some a)) w := by kernel_rfl
@[go_sem] theorem ahead_impl_memory_Size (a : Addr) (w : World) : (nilAhead 615 89 (.pointer (some a)) "Size").run Tryz.prog w = .ok (some false) w := by kernel_rfl
@[go_sem] theorem meth_impl_memory_Size (a : Addr) (w : World) : (method 615 89 (.pointer (some a)) "Size").run Tryz.prog w = .ok (271, .pointer (some a)) w := by kernel_rfl
@[go_sem] theorem ahead_impl_memory_Truncate (a : Addr) (w : World) : (nilAhead 615 89 (.pointer (some a)) "Truncate").run Tryz.prog w = .ok (some false) w := by kernel_rfl
@[go_sem] theorem meth_impl_memory_Truncate (a : Addr) (w : World) : (method 615 89 (.pointer (some a)) "Truncate").run Tryz.prog w = .ok (272, .pointer (some a)) w := by kernel_rfl
@[go_sem] theorem ahead_shared_SlickReaderStream_Readn1 (a : Addr) (w : World) : (nilAhead 615 362 (.pointer (some a)) "Readn1").run Tryz.prog w = .ok (some false) w := by kernel_rfl
@[go_sem] theorem meth_shared_SlickReaderStream_Readn1 (a : Addr) (w : World) : (method 615 362 (.pointer (some a)) "Readn1").run Tryz.prog w = .ok (415, .pointer (some a)) w := by kernel_rfl
@[go_sem] theorem ahead_shared_SlickReaderStream_Readnzc (a : Addr) (w : World) : (nilAhead 615 362 (.pointer (some a)) "Readnzc").run Tryz.prog w = .ok (some false) w := by kernel_rfl
@[go_sem] theorem meth_shared_SlickReaderStream_Readnzc (a : Addr) (w : World) : (method 615 362 (.pointer (some a)) "Readnzc").run Tryz.prog w = .ok (416, .pointer (some a)) w := by kernel_rfl
@[go_sem] theorem ahead_shared_SlickReaderStream_Readn (a : Addr) (w : World) : (nilAhead 615 362 (.pointer (some a)) "Readn").run Tryz.prog w = .ok (some false) w := by kernel_rfl
@[go_sem] theorem meth_shared_SlickReaderStream_Readn (a : Addr) (w : World) : (method 615 362 (.pointer (some a)) "Readn").run Tryz.prog w = .ok (414, .pointer (some a)) w := by kernel_rfl
@[go_sem] theorem ahead_shared_SlickReaderStream_Readb (a : Addr) (w : World) : (nilAhead 615 362 (.pointer (some a)) "Readb").run Tryz.prog w = .ok (some false) w := by kernel_rfl
@[go_sem] theorem meth_shared_SlickReaderStream_Readb (a : Addr) (w : World) : (method 615 362 (.pointer (some a)) "Readb").run Tryz.prog w = .ok (413, .pointer (some a)) w := by kernel_rfl
@[go_sem] theorem ahead_shared_SlickReaderStream_Unreadn1 (a : Addr) (w : World) : (nilAhead 615 362 (.pointer (some a)) "Unreadn1").run Tryz.prog w = .ok (some false) w := by kernel_rfl
@[go_sem] theorem meth_shared_SlickReaderStream_Unreadn1 (a : Addr) (w : World) : (method 615 362 (.pointer (some a)) "Unreadn1").run Tryz.prog w = .ok (419, .pointer (some a)) w := by kernel_rfl
end Go.Proofs.Wx

namespace Go.Proofs.Wx
open Go
theorem or_low (q m k : Nat) (hq : q < 2 ^ (7 * k)) (hb : q + m * 2 ^ (7 * k) < 18446744073709551616) :
    bits .or .u64 (q : Nat) ((m : Int) * 2 ^ (7 * k)) = ((q + m * 2 ^ (7 * k) : Nat) : Int):=by
  have h1 : ((m : Int) * 2 ^ (7 * k)) = ((m * 2 ^ (7 * k) : Nat) : Int):=by push_cast;rfl
  rw [h1]
  have:=bits_join_low .u64 64 (by decide) wraps_u64 (7 * k) (q : Nat) ((m * 2 ^ (7 * k) : Nat) : Int) (by omega) (by exact_mod_cast hq) (by push_cast;omega) (by omega)
    (by have : (m * 2 ^ (7 * k)) % 2 ^ (7 * k) = 0:=Nat.mul_mod_left _ _
        exact_mod_cast this) (by push_cast;omega)
  rw [this];push_cast;rfl
theorem and127 (b : Nat) (h : b < 256) : IntKind.u64.wrap (bits .and .u8 (b : Int) 127) = ((b % 128 : Nat) : Int):=by
  rw [u8_and127 _ (by omega) (by omega),IntWalk.u64_in _ (by omega)];rfl
/-- What reading a varint has, k bytes in. -/
structure UvAt (n k q m : Nat) : Prop where
  lt : q < 2 ^ (7 * k)
  eq : n = q + m * 2 ^ (7 * k)
theorem UvAt.start (n : Nat) : UvAt n 0 0 n:=⟨by simp,by simp⟩
theorem UvAt.step {n k q m : Nat} (h : UvAt n k q m) : UvAt n (k + 1) (q + (m % 128) * 2 ^ (7 * k)) (m / 128):=by
  have e : 2 ^ (7 * (k + 1)) = 128 * 2 ^ (7 * k):=by rw [show 7 * (k + 1) = 7 + 7 * k by omega,Nat.pow_add]
  have h1:=h.lt
  have h2:=h.eq
  generalize 2 ^ (7 * k) = P at *
  have h3 : m % 128 * P ≤ 127 * P:=Nat.mul_le_mul_right _ (by omega)
  refine ⟨by rw [e];omega,?_⟩
  rw [e,h2,← Nat.mul_assoc]
  have : m = m % 128 + m / 128 * 128:=by omega
  have h4 : m * P = (m % 128) * P + m / 128 * 128 * P:=by rw [← Nat.add_mul];congr 1
  omega
theorem UvAt.small {n k q m : Nat} (h : UvAt n k q m) (hn : n < 9223372036854775808) (hm : 128 ≤ m) : k ≤ 7:=by
  have h2:=h.eq
  rcases Nat.lt_or_ge k 8 with hk|hk
  · omega
  · have : 2 ^ 56 ≤ 2 ^ (7 * k):=Nat.pow_le_pow_right (by decide) (by omega)
    have h3 : 128 * 2 ^ 56 ≤ m * 2 ^ (7 * k):=Nat.mul_le_mul hm this
    omega
theorem UvAt.last {n k q m : Nat} (h : UvAt n k q m) (hn : n < 9223372036854775808) : bits .or .u64 (q : Nat) (IntKind.u64.wrap ((m : Int) * 2 ^ (7 * k))) = (n : Nat):=by
  have h2:=h.eq
  have e : ((m : Int) * 2 ^ (7 * k)) = ((m * 2 ^ (7 * k) : Nat) : Int):=by push_cast;rfl
  have : IntKind.u64.wrap ((m : Int) * 2 ^ (7 * k)) = (m : Int) * 2 ^ (7 * k):=by
    rw [e];exact IntWalk.u64_in _ (by omega)
  rw [this,or_low q m k h.lt (by omega),← h2]
theorem UvAt.next {n k q m : Nat} (h : UvAt n k q m) (hn : n < 9223372036854775808) : bits .or .u64 (q : Nat) (IntKind.u64.wrap (((m % 128 : Nat) : Int) * 2 ^ (7 * k))) = ((q + (m % 128) * 2 ^ (7 * k) : Nat) : Int):=by
  have h2:=h.eq
  have h3 : m % 128 * 2 ^ (7 * k) ≤ m * 2 ^ (7 * k):=Nat.mul_le_mul_right _ (Nat.mod_le _ _)
  have e : (((m % 128 : Nat) : Int) * 2 ^ (7 * k)) = ((m % 128 * 2 ^ (7 * k) : Nat) : Int):=by push_cast;rfl
  have : IntKind.u64.wrap (((m % 128 : Nat) : Int) * 2 ^ (7 * k)) = ((m % 128 : Nat) : Int) * 2 ^ (7 * k):=by
    rw [e];exact IntWalk.u64_in _ (by omega)
  rw [this,or_low q (m % 128) k h.lt (by omega)]
end Go.Proofs.Wx
