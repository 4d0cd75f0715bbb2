import Derived.Test.YtdokbceiganhdaaGreatDoorM13
import Derived.Test.YtdokbceiganhdaaGreatDoorM30
import Derived.Test.YtdokbceiganhdaaGreatDoorM34
import Derived.Test.YtdokbceiganhdaaGreatDoorM35
set_option maxRecDepth 100000
set_option maxHeartbeats 1000000
set_option linter.unusedVariables false
set_option linter.unusedSimpArgs false
set_option linter.deprecated false
set_option linter.all false
set_option linter.unusedSectionVars false
namespace Go.Proofs.Wx
open Go Go.RowKit Go.Sort
/-- binary.PutUvarint, at a place of a row. -/
theorem putUvO {g o n c x : Nat} {w : World} {cs : List Value} {Tb : TypeId} (hx : x < 18446744073709551616) (hg : Blk w g cs Tb (0,0)) (hn : (Lib.uvarint x).length ≤ n) (ho : o + (Lib.uvarint x).length ≤ cs.length) :
    Calls Tryz.prog 104 #[.slice (some ⟨g,o,none⟩) n c,.int .u64 x] w fun e w'=>e = .returned (.int .i64 (Lib.uvarint x).length) ∧ Blk w' g (lay cs o (Lib.uvarint x)) Tb (0,0) ∧ Fr [g] w w':=by
  have hb : ∀ w1,Blk w1 g cs Tb (0,0) → Calls Tryz.prog 128 #[.slice (some ⟨g,o,none⟩) n c,.int .u64 x] w1 fun e w'=>e = .returned (.int .i64 (Lib.uvarint x).length) ∧ Blk w' g (lay cs o (Lib.uvarint x)) Tb (0,0) ∧ Fr [g] w1 w':=fun w1 hg=>by
    refine (Tryz.binary_PutUvarint g o n c x hx w1 hn fun j hj=>⟨?_,hg.free _⟩).mono ?_
    · rw [hg.cell,List.getElem?_eq_getElem (by omega)];rfl
    · rintro e w' ⟨rfl,rfl⟩
      refine ⟨rfl,?_,setCells_fr _ _ _⟩
      have:=setCells_blk (Lib.byteCells (Lib.uvarint x)) o w1 cs hg (by rw [byteCells_by8,by8_length];omega)
      rw [byteCells_by8] at this
      exact this.conv (by simp [lay,by8_length])
  have hbw:=hb w hg
  clear hb
  go_enter Tryz.func104,Tryz.ntmps104
  go_wp2_with (first
    | go_at_call 128;refine hbw.mono ?_;rintro e w1 ⟨rfl,hg1,hF1⟩)
  go_ret
  exact ⟨rfl,hg1,hF1⟩
theorem putUv {g n c x : Nat} {w : World} {cs : List Value} (hx : x < 18446744073709551616) (hg : Blk w g cs 5 (0,0)) (hn : (Lib.uvarint x).length ≤ n) (ho : (Lib.uvarint x).length ≤ cs.length) :
    Calls Tryz.prog 104 #[.slice (some ⟨g,0,none⟩) n c,.int .u64 x] w fun e w'=>e = .returned (.int .i64 (Lib.uvarint x).length) ∧ Blk w' g (lay cs 0 (Lib.uvarint x)) 5 (0,0) ∧ Fr [g] w w' :=
  putUvO hx hg hn (by omega)
theorem bitLenAux_eq : ∀ (f x : Nat),x < 2 ^ f → Lib.bitLenAux f x = bitsLen x
  | 0,x,h=>by
    have : x = 0:=by simp at h;exact h
    subst this;rfl
  | f + 1,x,h=>by
    unfold Lib.bitLenAux
    by_cases h0 : x = 0
    · subst h0;rfl
    · rw [if_neg h0,bitLenAux_eq f (x / 2) (by rw [Nat.pow_succ] at h;omega)]
      unfold bitsLen
      rw [if_neg h0]
      by_cases h1 : x / 2 = 0
      · have : x = 1:=by omega
        subst this;rfl
      · rw [if_neg h1]
        conv=>rhs;rw [Nat.log2_def,if_pos (show x ≥ 2 by omega)]
        omega
theorem bitsLen_le {x : Nat} (h : x < 18446744073709551616) : bitsLen x ≤ 64:=by
  unfold bitsLen
  split
  · omega
  · rename_i h0
    have:=(Nat.log2_lt h0 (k:=64)).2 (by omega)
    omega
/-- varint.UvarintSize. -/
theorem uvSize {x : Nat} (hx : x < 18446744073709551616) (w : World) : Calls Tryz.prog 129 #[.int .u64 x] w fun e w'=>e = .returned (.int .i64 (Lib.uvarint x).length) ∧ Fr [] w w':=by
  have h:=fun w=>Tryz.bits_Len64 (x : Int) w (by omega) (by omega)
  rw [Int.toNat_natCast] at h
  have hu : Lib.bitLen x = bitsLen x:=bitLenAux_eq 64 x (by omega)
  rw [hu] at h
  have hl:=uvLen_bits (n:=x) (b:=bitsLen x) rfl
  have hb:=bitsLen_le hx
  generalize (Lib.uvarint x).length = L at *
  generalize bitsLen x = b at *
  have hbz : (b : Int) ≤ 64:=by omega
  have hb0 : (0 : Int) ≤ b:=by omega
  have d1 : Int.tdiv (b : Int) 7 = (b : Int) / 7:=by rw [Int.tdiv_eq_ediv_of_nonneg (by omega)]
  have d2 : Int.tmod (b : Int) 7 = (b : Int) % 7:=by rw [Int.tmod_eq_emod_of_nonneg (by omega)]
  have w1 : IntKind.i64.wrap ((b : Int) / 7) = (b : Int) / 7:=by simp [IntKind.wrap,IntKind.bits,IntKind.signed];omega
  have w2 : IntKind.i64.wrap ((b : Int) % 7) = (b : Int) % 7:=by simp [IntKind.wrap,IntKind.bits,IntKind.signed];omega
  have w3 : IntKind.i64.wrap ((b : Int) / 7 + 1) = (b : Int) / 7 + 1:=by simp [IntKind.wrap,IntKind.bits,IntKind.signed];omega
  have HL:=Lib.hid hl
  clear hl hu
  go_enter Tryz.func129,Tryz.ntmps129
  go_wp2_with (first
    | go_at_call 151;refine (h _).mono ?_;rintro e wa ⟨rfl,rfl⟩)
  all_goals
    go_ret
    refine ⟨?_,Fr.refl⟩
    have hl:=HL.out
    clear HL d1 d2 w1 w2 w3 h
    simp at *
    split at hl <;> omega
end Go.Proofs.Wx

namespace Go.Proofs.Wx
open Go Go.RowKit
theorem codec (a : Addr) (w : World) : Calls Tryz.prog 280 #[.pointer (some a)] w fun e w'=>e = .returned (.int .u64 1025) ∧ w' = w:=by
  go_enter Tryz.func280,Tryz.ntmps280
  go_wp2
  go_ret
  exact ⟨rfl,rfl⟩
theorem codecS (a : Addr) (w : World) : Calls Tryz.prog 384 #[.pointer (some a)] w fun e w'=>e = .returned (.int .u64 1024) ∧ w' = w:=by
  go_enter Tryz.func384,Tryz.ntmps384
  go_wp2
  go_ret
  exact ⟨rfl,rfl⟩
theorem uv1024 : Lib.uvarint 1024 = [128,8]:=by
  rw [Lib.uvarint_big (by omega),Lib.uvarint_small (by omega)];rfl
theorem uv1025 : Lib.uvarint 1025 = [129,8]:=by
  rw [Lib.uvarint_big (by omega),Lib.uvarint_small (by omega)];rfl
end Go.Proofs.Wx

namespace Go.Proofs.Wx
open Go Go.RowKit
variable {T : TypeId} {a : Addr} {P : List Nat} {f : Nat} {K : World → Value → List UInt8 → Prop}
theorem swMarshalS {w : World} {base sb ib wd L c n : Nat} {v : Value} {ys rows : List UInt8} (hs : Snk T a P base K f) (hBuf : K w v ys) (hS : Blk w sb [.int .u32 wd,.int .u64 n,.slice (some ⟨ib,0,none⟩) L c] 457 (0,0)) (hI : Bs w ib 0 rows) (hL : rows.length = L) (h0 : 0 < L) (hL2 : L < 1000000) (hwd : wd < 4294967296)
    (hlen : ys.length < 8000000) (hbase : base ≤ w.heap.size) (hsp : sb ∉ P) (hsv : v.ownBlock ≠ some sb) (hip : ib ∉ P) (hiv : v.ownBlock ≠ some ib) :
    Calls Tryz.prog 308 #[.pointer (some ⟨sb,0,none⟩),.iface T (.pointer (some a))] w fun e w'=>(∃ N : Int,e = .returned (.tuple #[.int .u64 N,.nilIface])) ∧ ∃ v',SW P K w v w' v' (ys ++ (Lib.leBytes 4 wd ++ (Lib.leBytes 8 L ++ rows))):=by
  have hc:=hS.cells
  have h32:=write32S hs hBuf hwd (by omega) hbase
  have hsl:=hS.lt
  have hil:=hI.lt
  have hLi : (L : Int) < 1000000000:=by omega
  have HL:=Lib.hid (And.intro hL (And.intro h0 (And.intro hL2 (And.intro hlen hbase))))
  obtain ⟨A,hA⟩ : ∃ Z : List UInt8,Hid (Z = Lib.leBytes 4 wd):=⟨_,rfl⟩
  obtain ⟨B,hB⟩ : ∃ Z : List UInt8,Hid (Z = Lib.leBytes 8 L):=⟨_,rfl⟩
  have lA : Hid (A.length = 4):=by show _ = _;rw [hA.out,Lib.leBytes_length]
  have lB : Hid (B.length = 8):=by show _ = _;rw [hB.out,lb8]
  rw [← hA.out] at h32 ⊢
  rw [← hB.out]
  have h64:=fun (w1 : World) (v1 : Value) (hW : SW P K w v w1 v1 (ys ++ A))=>write64S hs (x:=L) hW.buf (by omega) (by have:=HL.out;have:=lA.out;simp;omega) (by have:=HL.out;have:=hW.fr.size;omega)
  have hwr:=fun (w2 : World) (v2 : Value) (hW : SW P K w v w2 v2 (ys ++ A ++ B)) (hI : Bs w2 ib 0 rows) (hu : v2.ownBlock ≠ some ib)=>hs.wr (c2:=c) (n:=L) hW.buf hI hL h0 hip hu (fun e=>by have h9:=congrArg List.length e;have h8:=lA.out;simp only [List.length_append,List.length_nil] at h9;omega) (by have:=lA.out;have:=lB.out;simp;omega) (Nat.le_trans hbase hW.fr.size)
  have hah:=hs.ahead
  have hme:=hs.meth
  have hen:=hs.enter
  clear hL h0 hL2 hlen hbase hwd
  go_enter Tryz.func308,Tryz.ntmps308
  go_wp2_with (first
    | go_at_call 289;refine h32.mono ?_;rintro e w1 ⟨rfl,v1,hW1⟩;have hS1:=hW1.keep hS hsp hsv;have hI1:=hW1.keepB hI hip hiv;have hc1:=hS1.cells;have hv1:=hW1.own_ne hsl hsv;have hu1:=hW1.own_ne hil hiv;clear hc h32
    | go_at_call 299;refine (h64 _ _ hW1).mono ?_;rintro e w2 ⟨rfl,v2,hW2⟩;have hS2:=hW2.keep hS1 hsp hv1;have hI2:=hW2.keepB hI1 hip hu1;have hc2:=hS2.cells;have hv2:=hW2.own_ne hS1.lt hv1;have hu2:=hW2.own_ne hI1.lt hu1;rw [← hB.out] at hW2;have hW12:=(hW1.trans hW2).same hs (Fr.drew Fr.refl : Fr [] w2 w2.drew);clear hc1 h64
    | (with_reducible refine (hwr _ _ hW12 hI2.drew hu2).mono ?_);rintro e w3 ⟨rfl,v3,hW3⟩
    | (refine wre 10 [(0,.free),(1,.free),(2,.free),(3,.free),(4,.look),(5,.free),(6,.free),(7,.free),(8,.act),(9,.free),(10,.free),(11,.free),(12,.free),(13,.free)] ?_)
    | (with_reducible refine wEI ?_;(first|(refine wEN ?_;skip)|(refine wEF rfl (fun K hK=>?_);go_simp)|(refine wEL rfl rfl (fun K hK=>?_);go_simp)|(refine wER rfl (fun K hK=>?_);go_simp)|(refine wEM rfl (fun K hK=>?_);go_simp;try refine ⟨_,_,⟨rfl,rfl⟩,?_⟩)|(refine wEG rfl (fun K hK=>?_);go_simp)|(refine wEA rfl (fun K hK=>?_);go_simp))))
  go_ret2
  refine ⟨⟨_,rfl⟩,v3,?_⟩
  have:=hW12.trans hW3
  rwa [List.append_assoc,List.append_assoc] at this
def mwRelS (P : List Nat) (K : World → Value → List UInt8 → Prop) (w4 : World) (v4 : Value) (ys4 : List UInt8) (l : List Itm) (ws : List Nat) (k : Nat) (s49 s6 : Value) (wr : World) : Prop :=
  ∃ (j : Nat) (N : Int) (v1 : Value),s49 = .int .i64 j ∧ s6 = .int .u64 N ∧ j + k = ws.length ∧ SW P K w4 v4 wr v1 (ys4 ++ (ws.take j).flatMap (bucketB l))
set_option maxRecDepth 1000000 in
set_option maxHeartbeats 12800000 in
theorem mwMarshalS {w : World} {base mb bm : Nat} {D : Nat → Prop} {l : List Itm} {ks : List Nat} {ib : Nat → Nat} {v : Value} {ys : List UInt8} (hs : Snk T a P base K f) (hBuf : K w v ys) (hm : w.cell? ⟨mb,0,none⟩ = some (.map (some bm))) (hml : mb < w.heap.size) (hmb : D mb) (hG : Grp w bm D l ks ib)
    (hl : l.length ≤ 50) (hd : ∀ e ∈ l,e.1.dig.length ≤ 200) (hlen : ys.length < 7000000) (hbase : base ≤ w.heap.size) (hp : ∀ k ∈ P,¬ D k) (hv : ∀ k,v.ownBlock = some k → ¬ D k) (hhi : ∀ b,D b → b < w.heap.size) (hLen : LenC) :
    Calls Tryz.prog 300 #[.pointer (some ⟨mb,0,none⟩),.iface T (.pointer (some a))] w fun e w'=>(∃ N : Int,e = .returned (.tuple #[.int .u64 N,.nilIface])) ∧ ∃ v',SW P K w v w' v' (ys ++ groupB l):=by
  obtain ⟨hw1,hw2⟩:=widths_length hG
  have hkl : (ks.map fun n=>(n + 8,swV n (ofW l n).length (ib n))).length = ks.length:=by simp
  have hlm:=hG.map.len (P:=Tryz.prog) (T:=237) (K:=211) (E:=457) (by kernel_rfl)
  rw [hkl] at hlm
  have h32:=write32S hs (x:=ks.length) hBuf (by omega) (by omega) hbase
  have wU : IntKind.u32.wrap (ks.length : Int) = (ks.length : Int):=by simp [IntKind.wrap,IntKind.bits,IntKind.signed];omega
  have HL:=Lib.hid (And.intro hl (And.intro hlen (And.intro hbase (And.intro hhi (And.intro hw1 hw2)))))
  obtain ⟨A,hA⟩ : ∃ Z : List UInt8,Hid (Z = Lib.leBytes 4 ks.length):=⟨_,rfl⟩
  have lA : Hid (A.length = 4):=by show _ = _;rw [hA.out,Lib.leBytes_length]
  rw [← hA.out] at h32
  have hks:=hG.nodup
  clear hlen hbase hw1 hw2 hkl hks
  go_enter Tryz.func300,Tryz.ntmps300
  have hdis : ∀ k ∈ P ++ v.ownBlock.toList,¬ D k:=by
    intro k hk
    rcases List.mem_append.1 hk with hk|hk
    · exact hp _ hk
    · exact hv k (by simpa using hk)
  have hmn : mb ∉ P ++ v.ownBlock.toList:=fun hm=>hdis _ hm hmb
  go_wp2_with (first
    | go_at_call 289;refine h32.mono ?_;rintro e w1 ⟨rfl,v1,hW1⟩;have hm1 : w1.cell? ⟨mb,0,none⟩ = some (.map (some bm)):=(by rw [World.cell?_of_block (w:=w) (hW1.fr.block mb hml hmn)];exact hm);have hG1:=hG.fr hW1.fr hdis;have hl1:=hG1.map.len (P:=Tryz.prog) (T:=237) (K:=211) (E:=457) (by kernel_rfl);have hml1 : mb < w1.heap.size:=Nat.lt_of_lt_of_le hml hW1.fr.size;obtain ⟨G,hGG⟩ : ∃ G,G = w1.heap.size:=⟨_,rfl⟩;have HG:=Lib.hid hGG;clear hGG h32 hlm
    | ((with_reducible refine list_makeSlice (fun K hK=>?_));  refine makeNk _ _ 467 211 rfl (n:=ks.length) u32_slice u32_info (by omega) (by have:=HL.out;omega) rfl rfl rfl G HG.out (fun w2 hg2 hF2=>?_);have hm2 : w2.cell? ⟨mb,0,none⟩ = some (.map (some bm)):=(by rw [World.cell?_of_block (w:=w1) (hF2.block mb hml1 (by simp))];exact hm1);have hG2:=hG1.map.fr hF2 (by simp);obtain ⟨ob,hrg,hIt⟩:=hG2.range (P:=Tryz.prog) (T:=237) (K:=211) (E:=457) (by kernel_rfl);have hg2l:=hg2.lt;clear hm1 hl1))
  have hF3 : Fr [] w2 (w2.alloc ob):=Fr.alloc Fr.refl
  have hml2 : mb < w2.heap.size:=Nat.lt_of_lt_of_le hml1 hF2.size
  have hb1:=hG1.map.lt
  have hbR : bm ≠ w2.heap.size ∧ G ≠ w2.heap.size ∧ w1.heap.size ≤ w2.heap.size ∧ mb ≠ w2.heap.size:=by have:=hF2.size;omega
  have hO0:=own_fr (own_start hg2 (by have:=HL.out;omega)) hF3 (by simp)
  have HC:=Lib.hid hm2
  clear hrg hm2 hG2
  generalize w2.alloc ob = w3 at *
  generalize w2.heap.size = R at *
  have hF13:=hF2.trans hF3 (S:=[]) (by simp)
  obtain ⟨M,hM⟩ : ∃ M,M = ks.map fun n=>(n + 8,swV n (ofW l n).length (ib n)):=⟨_,rfl⟩
  rw [← hM] at hIt
  have hMk : M.map (·.1) = ks.map (· + 8):=by rw [hM,List.map_map];rfl
  have hMl : M.length = ks.length:=by rw [hM];simp
  have HM:=Lib.hid hM
  have HF2:=Lib.hid hF2
  clear hM hg2 hF2 hF3
  go_loopg [8] M.length (fun k s8 wr=>keysRel w1 R bm G .u32 211 M k s8 wr)
  case atStart=>exact ⟨M,[],rfl,by simp,hO0,⟨_,_,rfl,hbR.2.1⟩,hIt,hF13⟩
  case round =>
    obtain ⟨rem,done,hk,hpm,hO,⟨g3,c3,rfl,hgR⟩,hIr,hFr⟩:=hrel
    clear hO0 hIt hF13
    have hdl : done.length + rem.length = M.length:=by have:=hpm.length_eq;simpa using this.symm
    rcases hIr.next (P:=Tryz.prog) 0 (Ne.symm hbR.1) with ⟨h0,hrun⟩|⟨k,v2,rem',w5,hperm,hrun,hI5,hE5,hF5⟩
    · subst h0
      obtain ⟨g,c,rest,hv',hgb,hgB⟩:=own_row hO (.inr ⟨_,_,rfl⟩)
      cases hv'
      have hdn : done.length = (widthsOf l).length:=by have:=HL.out;simp at hdl;omega
      have hS : (U32.row g3 rest).S (done.map fun (x : Nat)=>(x : Int)).toArray wr:=Blk.conv hgB (by first|(simp [List.map_map];done)|(simp [List.map_map];rfl))
      have hso:=U32.sortU (n:=done.length) (c:=c3) hLen hS (by simp) (by have:=HL.out;omega)
      have hgG:=HG.out
      have hg1 : w1.heap.size ≤ g3:=by omega
      have hgp : g3 ∉ P:=fun hm=>by have:=hs.lt hW1.buf _ hm;omega
      have hgv : v1.ownBlock ≠ some g3:=fun e=>by have:=hs.own hW1.buf _ e;omega
      have hWr:=hW1.same hs hFr
      have hmr : wr.cell? ⟨mb,0,none⟩ = some (.map (some bm)):=by
        have h1 : w1.cell? ⟨mb,0,none⟩ = some (.map (some bm)):=by rw [← HC.out,World.cell?_of_block (w:=w1) (w':=w2) (HF2.out.block mb hml1 (by simp))]
        rw [World.cell?_of_block (w:=w1) (hFr.block mb hml1 (by simp))];exact h1
      have HK:=Lib.hid (And.intro hdn (And.intro hpm (And.intro hgb hmr)))
      clear hS hgB hpm hdn hgb hmr hO hIr
      go_wp2_with (first
        | go_at_call 307;refine hso.mono ?_;rintro e w4 ⟨rfl,d',hS4,hF4,hp4,hs4⟩;clear hso)
      obtain ⟨hdn,hpm,hgb,hmr⟩:=HK.out
      obtain ⟨q1,q2⟩:=sorted_list (by simp) hp4 hs4
      obtain ⟨zs,hz1,hz2⟩:=cast_inv (by simpa using q1)
      have hzw : zs = (widthsOf l).map (· + 8):=hG.widths (hz2.trans (by rw [← hMk];simpa using hpm.symm)) (by
        rw [hz1,List.pairwise_map] at q2
        exact q2.imp fun h=>by simpa using h)
      have hcell : ∀ j (h : j < (widthsOf l).length),w4.cell? ⟨g3,j,none⟩ = some (.int .u32 ((widthsOf l)[j] + 8 : Nat)):=by
        intro j hj
        have hj' : j < d'.size:=by have:=congrArg List.length hz1;simp [hzw] at this;omega
        obtain ⟨x,hx1,hx2⟩:=U32.row_at (St.At.start hS4) rfl hj'
        rw [hx1,hx2.out]
        have e : d'[j]! = d'.toList[j]'(by simpa using hj'):=by simp [hj']
        rw [e]
        simp only [hz1,hzw,List.getElem_map]
      have hg4:=Blk.lt hS4
      have hW4 : SW P K w v w4 v1 (ys ++ A):=hWr.step hs hF4 (by simp;exact ⟨hgp,hgv,by have:=hW1.fr.size;omega⟩)
      have hF14 : Fr [] w1 w4:=hFr.trans hF4 (by intro k hk hl;simp at hk;omega)
      have hG4:=hG1.fr hF14 (by simp)
      have hm4 : w4.cell? ⟨mb,0,none⟩ = some (.map (some bm)):=by
        have hmlr:=Nat.lt_of_lt_of_le hml1 hFr.size
        rw [World.cell?_of_block (w:=wr) (hF4.block mb hmlr (by simp;omega))];exact hmr
      have hml4:=Nat.lt_of_lt_of_le hml1 hF14.size
      have hdis1 : ∀ k ∈ P ++ v1.ownBlock.toList,¬ D k:=by
        intro k hk
        rcases List.mem_append.1 hk with hk|hk
        · exact hp _ hk
        · rcases hW1.own with e|⟨k',e,h⟩
          · exact hv k (by rw [← e];simpa using hk)
          · have : v1.ownBlock = some k:=by simpa using hk
            rw [this] at e;cases e;exact fun hd=>by have:=HL.out.2.2.2.1 _ hd;omega
      have H4:=Lib.hid (And.intro hcell (And.intro hm4 (And.intro hW4 hG4)))
      have hws : done.length = (widthsOf l).length:=hdn
      clear hcell hm4 hW4 hG4 hS4 hF4 hp4 hs4 q1 q2 hz1 hz2 hzw hpm hgb hmr hWr hG1 hW1 HK hFr hrun hdl hk
      obtain ⟨ws,hwsd⟩ : ∃ ws,ws = widthsOf l:=⟨_,rfl⟩
      rw [← hwsd] at hws
      have HW:=Lib.hid hwsd
      clear hwsd
      go_loopg [49,6] ws.length (fun k s49 s6 wr=>mwRelS P K w4 v1 (ys ++ A) l ws k s49 s6 wr)
      case atStart=>exact ⟨0,4,v1,rfl,rfl,by omega,by simpa using SW.refl H4.out.2.2.1.buf⟩
      case round =>
        rename World=>wq
        obtain ⟨j,N,v5,rfl,rfl,hjk,hW5⟩:=hrel
        obtain ⟨hcell,hm4,hW4,hG4⟩:=H4.out
        have hws2 : ∀ x ∈ widthsOf l,x ≤ 200:=fun x hx=>by
          obtain ⟨e0,he0,hen⟩:=List.mem_map.1 ((mem_ascOf _ _).1 hx)
          exact hen ▸ hd e0 he0
        by_cases hj : j < ws.length
        · have hjw : j < (widthsOf l).length:=by rw [← HW.out];exact hj
          obtain ⟨n,hnE⟩ : ∃ n,n = (widthsOf l)[j]:=⟨_,rfl⟩
          have hnm : n ∈ widthsOf l:=hnE ▸ List.getElem_mem hjw
          have hnl:=(mem_ascOf _ _).1 hnm
          have hnk : n ∈ ks:=(hG.mem n).2 hnl
          have hn2:=hws2 n hnm
          have hcn : 1 ≤ (ofW l n).length:=by
            obtain ⟨e0,he0,hen⟩:=List.mem_map.1 hnl
            exact List.length_pos_of_mem (List.mem_filter.2 ⟨he0,by simpa using hen⟩)
          have hc50 : (ofW l n).length ≤ 50:=Nat.le_trans (List.length_filter_le _ _) hl
          obtain ⟨hrB,hib1⟩:=hG4.rows n hnk
          have hrl:=@rows_len l n
          have hbe:=bucketB_eq l n
          have hgn : g3 ∉ P ++ v1.ownBlock.toList:=by simp;exact ⟨hgp,hgv⟩
          have hmn1 : mb ∉ P ++ v1.ownBlock.toList:=fun hm=>hdis1 _ hm hmb
          have hbn1 : bm ∉ P ++ v1.ownBlock.toList:=fun hm=>hdis1 _ hm hG4.mapB
          have hin1 : ib n ∉ P ++ v1.ownBlock.toList:=fun hm=>hdis1 _ hm hib1
          have hc5:=hcell j hjw
          rw [← World.cell?_of_block (w:=w4) (w':=wq) (hW5.fr.block g3 hg4 hgn),← hnE] at hc5
          have hm5:=hm4
          rw [← World.cell?_of_block (w:=w4) (w':=wq) (hW5.fr.block mb hml4 hmn1)] at hm5
          have hM5:=hG4.map.fr hW5.fr hbn1
          have hlk:=hM5.look (P:=Tryz.prog) (T:=237) (K:=211) (E:=457) (by kernel_rfl) (by kernel_rfl) sw_zero (n + 8) false
          rw [look_sw hnk] at hlk
          simp only [Option.getD_some,Bool.false_eq_true,if_false,swV] at hlk
          have hI5:=hrB.fr hW5.fr hin1
          obtain ⟨rows,hrows⟩ : ∃ rows,rows = rowsB (sortD (ofW l n)):=⟨_,rfl⟩
          obtain ⟨cnt,hcnt⟩ : ∃ cnt,cnt = (ofW l n).length:=⟨_,rfl⟩
          obtain ⟨m8,hm8⟩ : ∃ m,m = n + 8:=⟨_,rfl⟩
          rw [← hrows] at hI5 hrl hbe
          rw [← hcnt] at hlk hrl hbe hcn hc50
          rw [← hm8] at hlk hrl hbe hc5
          have hLb : m8 * cnt ≤ 208 * 50:=Nat.mul_le_mul (by omega) hc50
          have hLp : 8 * 1 ≤ m8 * cnt:=Nat.mul_le_mul (by omega) hcn
          obtain ⟨Lb,hLbE⟩ : ∃ Lb,Lb = m8 * cnt:=⟨_,rfl⟩
          rw [← hLbE] at hlk hrl hbe hLb hLp
          have hiv : v5.ownBlock ≠ some (ib n):=by
            intro e
            rcases hW5.own with e1|⟨k,e1,h⟩
            · exact hin1 (by rw [← e1,e];simp)
            · rw [e] at e1;cases e1;have:=hrB.lt;omega
          have hYl : ((ys ++ A) ++ (ws.take j).flatMap (bucketB l)).length < 8000000:=by
            have h1:=buckets_length hl (ws:=ws.take j) fun x hx=>hws2 x (HW.out ▸ List.mem_of_mem_take hx)
            have h2 : (ws.take j).length ≤ ws.length:=by simp;omega
            have h3:=HL.out
            have h4:=lA.out
            have h5:=HW.out
            have h6 : ws.length ≤ 50:=by rw [h5];omega
            have h7 : 10412 * (ws.take j).length ≤ 10412 * 50:=Nat.mul_le_mul (Nat.le_refl _) (by omega)
            simp only [List.length_append]
            omega
          have hbw : base ≤ w4.heap.size:=by have:=HL.out;have:=hW4.fr.size;omega
          have hsw:=fun (wA : World) (hWA : SW P K w4 v1 wA v5 ((ys ++ A) ++ (ws.take j).flatMap (bucketB l))) (hSA : Blk wA wq.heap.size [.int .u32 m8,.int .u64 cnt,.slice (some ⟨ib n,0,none⟩) Lb Lb] 457 (0,0)) (hIA : Bs wA (ib n) 0 rows) =>
            swMarshalS hs hWA.buf hSA hIA hrl (by omega) (by omega) (by omega) hYl (Nat.le_trans hbw hWA.fr.size) (fun hm=>by have:=hs.lt hW5.buf _ hm;omega) (fun e=>by have:=hs.own hW5.buf _ e;omega) (fun e=>hin1 (by simp [e])) hiv
          have hjz : (j : Int) < (done.length : Int):=by omega
          have HB:=Lib.hid (And.intro hbe (And.intro hnE (And.intro hcell (And.intro hm4 hjw))))
          clear hbe hrB hcell hm4 hrl hLbE hm8 hcnt hrows hYl hnE hnl hnm hws2
          clear hM5 hG4 hW4 hgn hmn1 hbn1 hF14 hc50 hcn hLp hLb hbR hMk hMl hml4 hg4 hml1 hml2 hb1 hg2l hws hdn hgG
          go_wp2_with (first
            | go_at_call 308;refine (hsw _ (hW5.same hs (Fr.alloc Fr.refl)) (Blk.conv (Blk.newAt rfl) rfl) (hI5.alloc _)).mono ?_;rintro e w7 ⟨⟨N7,rfl⟩,v7,hW7⟩)
          go_roundg (ws.length - (j + 1))
          case measure=>omega
          case rel =>
            obtain ⟨hbe,hnE,_⟩:=HB.out
            have hj9 : j < 100:=by have:=HL.out;have h5:=congrArg List.length HW.out;omega
            refine ⟨j + 1,_,v7,by rw [wrap64_in (by omega) (by omega)];push_cast;rfl,rfl,by omega,?_⟩
            have h1:=(hW5.same hs (Fr.alloc Fr.refl)).trans hW7
            have e : ws.take (j + 1) = ws.take j ++ [n]:=by
              rw [List.take_succ_eq_append_getElem hj,hnE,List.getElem_of_eq HW.out]
            rw [e,List.flatMap_append,List.flatMap_singleton,hbe,← List.append_assoc]
            exact h1
        · have hjE : j = ws.length:=by omega
          have hjz : ¬ (j : Int) < (done.length : Int):=by omega
          go_wp2
          go_ret2
          refine ⟨⟨_,rfl⟩,v5,?_⟩
          have:=hW4.trans hW5
          rw [hjE,List.take_length,HW.out] at this
          have e : ys ++ groupB l = (ys ++ A) ++ (widthsOf l).flatMap (bucketB l):=by
            rw [hA.out];unfold groupB;have:=HL.out;rw [this.2.2.2.2.1,List.append_assoc]
          rw [e];exact this
    · have hl1 : rem'.length + 1 = rem.length:=by have:=hperm.length_eq;simpa using this.symm
      have her:=hE5.run (P:=Tryz.prog)
      have hO5:=own_fr hO hF5 (by simp;exact .inr (fun e=>hgR (by simpa [Value.ownBlock] using e)))
      have hbud : done.length + 1 ≤ 50:=by have:=HL.out;omega
      have HP:=Lib.hid (And.intro hpm (And.intro hperm (And.intro hl1 hk)))
      clear hpm hperm hl1 hk hIr
      go_wp2_with (first
        | ((with_reducible refine list_bi .append (fun K hK=>?_));  refine appOwnX _ _ 467 rfl G 211 (.int .u32 0) 1 4 u32_slice u32_info rfl (by omega) (.slice (some ⟨g3,0,none⟩) done.length c3) _ _ rfl (own_fr (S:=[]) hO5 (by exact frP) (by simp)) _ 1 _ [.int .u32 (k : Nat)] rfl (by omega) rfl (newOne (by simp)) (by intro u hu;simp at hu;subst hu;rfl) (by omega) (by omega) (by have:=hO.lt g3 rfl;have:=hF5.size;simp;omega) (fun v6 w6 hO6 hF6 hw6 hs6=>?_)))
      obtain ⟨hpm,hperm,hl1,hk⟩:=HP.out
      obtain ⟨g5,c5,rfl⟩:=hs6
      go_roundg rem'.length
      case measure=>omega
      case rel =>
        have hIl5 : R < w5.heap.size:=by obtain ⟨_,_,_,_,h2,_⟩:=hI5;exact (Array.getElem?_eq_some_iff.1 h2).1
        have hF56 : Fr [g3] w5 w6:=Fr.trans (S:=[g3]) (by exact frP) hF6 (by simp [Value.ownBlock])
        have h2:=own_ge hO g3 (by simp [Value.ownBlock])
        have h3:=HG.out
        refine ⟨rem',done ++ [k],rfl,?_,by simpa using hO6,⟨g5,c5,by simp,?_⟩,hI5.fr hF56 (by simp;exact fun e=>hgR e.symm) ?_,(hFr.trans hF5 ?_).trans hF56 ?_⟩
        · have:=hperm.map (·.1)
          refine hpm.trans ?_
          rw [List.append_assoc]
          exact List.Perm.append_left _ (by simpa using this)
        · intro e
          subst e
          rcases hw6 with h|h
          · exact hgR (by simpa [Value.ownBlock] using h.symm)
          · simp [Value.ownBlock] at h;omega
        · simp;intro e;omega
        · intro k hk hl;simp at hk;omega
        · intro k hk hl;simp at hk;omega
set_option maxRecDepth 1000000 in
set_option maxHeartbeats 12800000 in
theorem mwcMarshalS {w : World} {base cb bm c : Nat} {D : Nat → Prop} {l : List Itm} {ks : List Nat} {ib : Nat → Nat} {v : Value} {ys : List UInt8} (hs : Snk T a P base K f) (hBuf : K w v ys) (hC : Blk w cb [.map (some bm),.int .u64 c] 441 (0,0)) (hcb : D cb) (hG : Grp w bm D l ks ib)
    (hc : c < 9223372036854775808) (hl : l.length ≤ 50) (hd : ∀ e ∈ l,e.1.dig.length ≤ 200) (hlen : ys.length < 6900000) (hbase : base ≤ w.heap.size) (hp : ∀ k ∈ P,¬ D k) (hv : ∀ k,v.ownBlock = some k → ¬ D k) (hhi : ∀ b,D b → b < w.heap.size) (hLen : LenC) :
    Calls Tryz.prog 291 #[.pointer (some ⟨cb,0,none⟩),.iface T (.pointer (some a))] w fun e w'=>(∃ N : Int,e = .returned (.tuple #[.int .u64 N,.nilIface])) ∧ ∃ v',SW P K w v w' v' (ys ++ (Lib.leBytes 8 c ++ groupB l)):=by
  have hcc:=hC.cells
  have hdis : ∀ k ∈ P ++ v.ownBlock.toList,¬ D k:=by
    intro k hk
    rcases List.mem_append.1 hk with hk|hk
    · exact hp _ hk
    · exact hv k (by simpa using hk)
  have hcn : cb ∉ P ++ v.ownBlock.toList:=fun hm=>hdis _ hm hcb
  have h64:=write64S hs (x:=c) hBuf (by omega) (by omega) hbase
  obtain ⟨A,hA⟩ : ∃ Z : List UInt8,Hid (Z = Lib.leBytes 8 c):=⟨_,rfl⟩
  have lA : Hid (A.length = 8):=by show _ = _;rw [hA.out,lb8]
  rw [← hA.out] at h64 ⊢
  have hcl:=hC.lt
  have hmw:=fun (w1 : World) (v1 : Value) (hW : SW P K w v w1 v1 (ys ++ A))=>mwMarshalS hs (mb:=cb) hW.buf (by
      rw [World.cell?_of_block (w:=w) (hW.fr.block cb hcl hcn),hC.cell];rfl) (Nat.lt_of_lt_of_le hcl hW.fr.size) hcb (hG.fr hW.fr hdis) hl hd (by have:=lA.out;simp;omega) (Nat.le_trans hbase hW.fr.size) hp (fun k hk=>by
      rcases hW.own with e|⟨k',e,h⟩
      · exact hv k (by rw [← e];exact hk)
      · rw [hk] at e;cases e;exact fun hd=>by have:=hhi _ hd;omega) (fun b hb=>Nat.lt_of_lt_of_le (hhi b hb) hW.fr.size) hLen
  clear hlen hbase
  go_enter Tryz.func291,Tryz.ntmps291
  go_wp2_with (first
    | go_at_call 299;refine h64.mono ?_;rintro e w1 ⟨rfl,v1,hW1⟩;clear h64 hcc
    | go_at_call 300;refine (hmw _ _ hW1).mono ?_;rintro e w2 ⟨⟨N2,rfl⟩,v2,hW2⟩)
  go_ret2
  refine ⟨⟨_,rfl⟩,v2,?_⟩
  have:=hW1.trans hW2
  rwa [List.append_assoc] at this
def mhRelS (P : List Nat) (K : World → Value → List UInt8 → Prop) (w4 : World) (v4 : Value) (ys4 : List UInt8) (l : List Itm) (ws : List Nat) (k : Nat) (s28 s8 : Value) (wr : World) : Prop :=
  ∃ (j : Nat) (N : Int) (v1 : Value),s28 = .int .i64 j ∧ s8 = .int .u64 N ∧ j + k = ws.length ∧ SW P K w4 v4 wr v1 (ys4 ++ (ws.take j).flatMap (codeB l))
set_option maxRecDepth 1000000 in
set_option maxHeartbeats 12800000 in
theorem mhMarshalS {w : World} {base ix bm : Nat} {D : Nat → Prop} {l : List Itm} {cs : List Nat} {cb bc : Nat → Nat} {ks : Nat → List Nat} {ib : Nat → Nat → Nat} {v : Value} {ys : List UInt8} (hs : Snk T a P base K f) (hBuf : K w v ys) (hI : Ixs w ix bm D l cs cb bc ks ib)
    (hl : l.length ≤ 50) (hd : ∀ e ∈ l,e.1.dig.length ≤ 200) (hc : ∀ e ∈ l,e.1.code < 9223372036854775808) (hlen : ys.length < 6000000) (hbase : base ≤ w.heap.size) (hp : ∀ k ∈ P,¬ D k) (hv : ∀ k,v.ownBlock = some k → ¬ D k) (hhi : ∀ b,D b → b < w.heap.size) (hLen : LenC) :
    Calls Tryz.prog 283 #[.pointer (some ⟨ix,0,none⟩),.iface T (.pointer (some a))] w fun e w'=>(∃ N : Int,e = .returned (.tuple #[.int .u64 N,.nilIface])) ∧ ∃ v',SW P K w v w' v' (ys ++ idxB l):=by
  obtain ⟨hw1,hw2⟩:=codes_length hI
  obtain ⟨M,hM⟩ : ∃ M,M = cs.map fun c=>(c,Value.pointer (some ⟨cb c,0,none⟩)):=⟨_,rfl⟩
  have hMl : M.length = cs.length:=by rw [hM];simp
  have hMk : M.map (·.1) = cs:=by rw [hM,List.map_map];simp [Function.comp_def]
  have hIM:=hI.map
  rw [← hM] at hIM
  have hlm:=hIM.len (P:=Tryz.prog) (T:=240) (K:=26) (E:=438) (by kernel_rfl)
  have h32:=write32S hs (x:=M.length) hBuf (by omega) (by omega) hbase
  have wU : IntKind.u32.wrap (M.length : Int) = (M.length : Int):=by simp [IntKind.wrap,IntKind.bits,IntKind.signed];omega
  obtain ⟨T,hT⟩:=hI.top
  have htc:=hT.cells
  have hdis : ∀ k ∈ P ++ v.ownBlock.toList,¬ D k:=by
    intro k hk
    rcases List.mem_append.1 hk with hk|hk
    · exact hp _ hk
    · exact hv k (by simpa using hk)
  have hin : ix ∉ P ++ v.ownBlock.toList:=fun hm=>hdis _ hm hI.topB
  have hbn : bm ∉ P ++ v.ownBlock.toList:=fun hm=>hdis _ hm hI.mapB
  have HL:=Lib.hid (And.intro hl (And.intro hlen (And.intro hbase (And.intro hhi (And.intro hw1 (And.intro hw2 hMl))))))
  obtain ⟨A,hA⟩ : ∃ Z : List UInt8,Hid (Z = Lib.leBytes 4 M.length):=⟨_,rfl⟩
  have lA : Hid (A.length = 4):=by show _ = _;rw [hA.out,Lib.leBytes_length]
  rw [← hA.out] at h32
  have hM50 : M.length ≤ 50:=by omega
  have hsc:=fun (w1 : World) (hT1 : Blk w1 ix [.map (some bm)] T (0,0)) (hM1 : Mp w1 bm .u64 M)=>sortedCodes hT1 hM1 hM50 hLen
  have HM:=Lib.hid (And.intro hM hMk)
  clear hlen hbase hw1 hw2 hM hMk hMl
  go_enter Tryz.func283,Tryz.ntmps283
  go_wp2_with (first
    | go_at_call 289;refine h32.mono ?_;rintro e w1 ⟨rfl,v1,hW1⟩;have hT1:=hW1.fr.blk hT hin;have hM1:=hIM.fr hW1.fr hbn;clear h32 htc hlm
    | go_at_call 290;refine (hsc _ hT1 hM1).mono ?_;rintro e w4 ⟨g,c4,zs,rfl,hg1,hcell,hg4,hz1,hz2,hF4⟩;clear hsc)
  obtain ⟨hM,hMk⟩:=HM.out
  have hzw:=hI.codes (by rw [← hMk];exact hz1) hz2
  have hgp : g ∉ P:=fun hm=>by have:=hs.lt hW1.buf _ hm;omega
  have hgv : v1.ownBlock ≠ some g:=fun e=>by have:=hs.own hW1.buf _ e;omega
  have hW4:=hW1.same hs hF4
  have hI4:=(hI.fr hW1.fr hdis).fr hF4 (by simp)
  have hdis1 : ∀ k ∈ P ++ v1.ownBlock.toList,¬ D k:=by
    intro k hk
    rcases List.mem_append.1 hk with hk|hk
    · exact hp _ hk
    · rcases hW1.own with e|⟨k',e,h⟩
      · exact hv k (by rw [← e];simpa using hk)
      · have : v1.ownBlock = some k:=by simpa using hk
        rw [this] at e;cases e;exact fun hd=>by have:=HL.out.2.2.2.1 _ hd;omega
  have hws : M.length = zs.length:=by rw [hzw];have:=HL.out;omega
  have H4:=Lib.hid (And.intro hcell (And.intro hW4 (And.intro hI4 hzw)))
  clear hcell hW4 hI4 hzw hW1 hT1 hM1 hM hMk hz1 hz2
  go_loopg [28,8] zs.length (fun k s28 s8 wr=>mhRelS P K w4 v1 (ys ++ A) l zs k s28 s8 wr)
  case atStart=>exact ⟨0,4,v1,rfl,rfl,by omega,by simpa using SW.refl H4.out.2.1.buf⟩
  case round =>
    rename World=>wq
    obtain ⟨j,N,v5,rfl,rfl,hjk,hW5⟩:=hrel
    obtain ⟨hcell,hW4,hI4,hzw⟩:=H4.out
    by_cases hj : j < zs.length
    · obtain ⟨n,hnE⟩ : ∃ n,n = zs[j]:=⟨_,rfl⟩
      have hnm : n ∈ codesOf l:=hzw ▸ hnE ▸ List.getElem_mem hj
      have hnl:=(mem_ascOf _ _).1 hnm
      have hnk : n ∈ cs:=(hI4.mem n).2 hnl
      have hn2 : n < 9223372036854775808:=by
        obtain ⟨e0,he0,hen⟩:=List.mem_map.1 hnl
        exact hen ▸ hc e0 he0
      have hgn : g ∉ P ++ v1.ownBlock.toList:=by simp;exact ⟨hgp,hgv⟩
      have hin1 : ix ∉ P ++ v1.ownBlock.toList:=fun hm=>hdis1 _ hm hI4.topB
      have hc5:=hcell j hj
      rw [← World.cell?_of_block (w:=w4) (w':=wq) (hW5.fr.block g hg4 hgn),← hnE] at hc5
      have hI5:=hI4.fr hW5.fr hdis1
      obtain ⟨T5,hT5⟩:=hI5.top
      have hm5:=hT5.cells
      have hlk:=hI5.map.look (P:=Tryz.prog) (T:=240) (K:=26) (E:=438) (by kernel_rfl) (by kernel_rfl) ptr_zero n false
      rw [look_cb hnk] at hlk
      simp only [Option.getD_some,Bool.false_eq_true,if_false] at hlk
      obtain ⟨hC5,hcb5,hG5⟩:=hI5.code n hnk
      have hYl : ((ys ++ A) ++ (zs.take j).flatMap (codeB l)).length < 6900000:=by
        have h1:=flatMap_take (codeB l) zs j
        have h2:=idxB_len hd
        have h3:=HL.out
        have h4:=lA.out
        rw [hzw] at h1
        rw [hzw]
        simp only [idxB,List.length_append,Lib.leBytes_length] at h2
        simp only [List.length_append]
        omega
      have hbw : base ≤ w4.heap.size:=by have:=HL.out;have:=hW4.fr.size;omega
      have hmc:=mwcMarshalS hs hW5.buf hC5 hcb5 hG5 hn2 (Nat.le_trans (ofC_length l n) hl) (fun e he=>hd e (List.mem_filter.1 he).1) hYl (Nat.le_trans hbw hW5.fr.size) hp (fun k hk=>by
        rcases hW5.own with e1|⟨k',e1,h⟩
        · exact hdis1 k (by rw [← e1,hk];simp)
        · rw [hk] at e1;cases e1;exact fun hd=>by have:=HL.out.2.2.2.1 _ hd;have:=hW4.fr.size;omega) (fun b hb=>by have:=HL.out.2.2.2.1 b hb;have:=hW4.fr.size;have:=hW5.fr.size;omega) hLen
      have hjz : (j : Int) < (M.length : Int):=by omega
      have hj9 : j < 100:=by have:=HL.out;omega
      have HB:=Lib.hid (And.intro hnE (And.intro hcell (And.intro hW4 (And.intro hI4 hzw))))
      clear hYl hnE hnl hnm hcell hW4 hI4 hzw hI5 hC5 hG5 hgn hin1 hws hT5
      go_wp2_with (first
        | go_at_call 291;refine hmc.mono ?_;rintro e w7 ⟨⟨N7,rfl⟩,v7,hW7⟩)
      go_roundg (zs.length - (j + 1))
      case measure=>omega
      case rel =>
        obtain ⟨hnE,_⟩:=HB.out
        refine ⟨j + 1,_,v7,by first|(push_cast;rfl)|(rw [wrap64_in (by omega) (by omega)];push_cast;rfl),rfl,by omega,?_⟩
        have h1:=hW5.trans hW7
        have e : zs.take (j + 1) = zs.take j ++ [n]:=by rw [List.take_succ_eq_append_getElem hj,hnE]
        rw [e,List.flatMap_append,List.flatMap_singleton,← List.append_assoc]
        exact h1
    · have hjE : j = zs.length:=by omega
      have hjz : ¬ (j : Int) < (M.length : Int):=by omega
      go_wp2
      go_ret2
      refine ⟨⟨_,rfl⟩,v5,?_⟩
      have:=hW4.trans hW5
      rw [hjE,List.take_length,hzw] at this
      have e : ys ++ idxB l = (ys ++ A) ++ (codesOf l).flatMap (codeB l):=by
        rw [hA.out];unfold idxB;have:=HL.out;rw [this.2.2.2.2.1,this.2.2.2.2.2.2,List.append_assoc]
      rw [e];exact this
set_option maxRecDepth 1000000 in
set_option maxHeartbeats 12800000 in
theorem indexWriteG {w : World} {base k fc fm : Nat} {Ti : TypeId} {ia : Addr} {v : Value} {ys body : List UInt8} (hs : Snk T a P base K f) (hBuf : K w v ys) (hk : k < 1000000) (hk2 : (Lib.uvarint k).length = 2)
    (hca : ∀ w, (nilAhead 615 Ti (.pointer (some ia)) "Codec").run Tryz.prog w = .ok (some false) w) (hcm : ∀ w, (method 615 Ti (.pointer (some ia)) "Codec").run Tryz.prog w = .ok (fc, .pointer (some ia)) w) (hce : ∀ w, (callFunc fc #[.pointer (some ia)]).run Tryz.prog w = .ok (.enter fc #[.pointer (some ia)]) w)
    (hma : ∀ w, (nilAhead 615 Ti (.pointer (some ia)) "Marshal").run Tryz.prog w = .ok (some false) w) (hmm : ∀ w, (method 615 Ti (.pointer (some ia)) "Marshal").run Tryz.prog w = .ok (fm, .pointer (some ia)) w) (hmn : ∀ w x, (callFunc fm #[.pointer (some ia), x]).run Tryz.prog w = .ok (.enter fm #[.pointer (some ia), x]) w)
    (hco : ∀ w,Calls Tryz.prog fc #[.pointer (some ia)] w fun e w'=>e = .returned (.int .u64 k) ∧ w' = w)
    (hmh : ∀ w1 v1,SW P K w v w1 v1 (ys ++ Lib.uvarint k) → Calls Tryz.prog fm #[.pointer (some ia),.iface T (.pointer (some a))] w1 fun e w'=>(∃ N : Int,e = .returned (.tuple #[.int .u64 N,.nilIface])) ∧ ∃ v',SW P K w1 v1 w' v' (ys ++ Lib.uvarint k ++ body))
    (hlen : ys.length < 5000000) (hbase : base ≤ w.heap.size) :
    Calls Tryz.prog 64 #[.iface Ti (.pointer (some ia)),.iface T (.pointer (some a))] w fun e w'=>(∃ N : Int,e = .returned (.tuple #[.int .u64 N,.nilIface])) ∧ ∃ v',SW P K w v w' v' (ys ++ (Lib.uvarint k ++ body)):=by
  have hol:=hs.own hBuf
  have hpb:=hs.lt hBuf
  obtain ⟨G,hG⟩ : ∃ G,G = w.heap.size:=⟨_,rfl⟩
  have hGp : G ∉ P:=fun hm=>by have:=hpb _ hm;omega
  have hGv : v.ownBlock ≠ some G:=fun e=>by have:=hol _ e;omega
  have HG:=Lib.hid hG
  have hpu:=fun (w1 : World) (hg : Blk w1 G (List.replicate 10 (.int .u8 0)) 5 (0,0))=>putUv (n:=10) (c:=10) (x:=k) (by omega) hg (by omega) (by simp;omega)
  rw [hk2] at hpu
  have hwr:=fun (w2 : World) (hW : SW P K w v w2 v ys) (hB : Bs w2 G 0 (Lib.uvarint k))=>hs.wr (c2:=10) (n:=2) hW.buf hB hk2 (by omega) hGp hGv (fun _=>by omega) (by omega) (Nat.le_trans hbase hW.fr.size)
  have hah:=hs.ahead
  have hme:=hs.meth
  have hen:=hs.enter
  have HL:=Lib.hid (And.intro hlen (And.intro hbase hk2))
  have HM:=Lib.hid hmh
  clear hlen hbase hG hk2 hmh
  go_enter Tryz.func64,Tryz.ntmps64
  go_wp2_with (first
    | ((with_reducible refine list_makeSlice (fun K hK=>?_));  refine makeBk _ _ rfl _ _ _ _ 10 10 G rfl rfl rfl rfl (by omega) (by omega) HG.out (fun w1 hg1 hF1=>?_))
    | go_at_call 104;refine (hpu _ hg1).mono ?_;rintro e w3 ⟨rfl,hg3,hF3⟩;have hF13 : Fr [G] w w3:=(hF1.mono (by simp)).trans hF3 (by simp);have hW3:=(SW.refl (P:=P) hBuf).step hs hF13 (by simp;exact ⟨hGp,hGv,by have:=HG.out;omega⟩);have hb3 : Bs w3 G 0 (Lib.uvarint k):=Blk.bs (pre:=[]) (post:=List.drop 2 (List.replicate 10 (.int .u8 0))) hg3 (by simp [lay,HL.out.2.2]) rfl;clear hg1 hF1 hg3 hF3 hpu
    | (with_reducible refine (hco _).mono ?_);rintro e w2 ⟨rfl,rfl⟩
    | (with_reducible refine (hwr _ (hW3.same hs (Fr.drew Fr.refl : Fr [] w3 w3.drew)) hb3.drew).mono ?_);rintro e w4 ⟨rfl,v4,hW4⟩;have hW34:=(hW3.same hs (Fr.drew Fr.refl : Fr [] w3 w3.drew)).trans hW4
    | (with_reducible refine (HM.out _ _ hW34).mono ?_);rintro e w5 ⟨⟨N5,rfl⟩,v5,hW5⟩
    | (refine wre 3 [(0,.free),(1,.free),(2,.free),(3,.free),(4,.free),(5,.free),(6,.free),(7,.act),(8,.free),(9,.free),(10,.free),(11,.free),(12,.free)] ?_)
    | (with_reducible refine wEI ?_;(first|(refine wEN ?_;skip)|(refine wEF rfl (fun K hK=>?_);go_simp)|(refine wEL rfl rfl (fun K hK=>?_);go_simp)|(refine wER rfl (fun K hK=>?_);go_simp)|(refine wEM rfl (fun K hK=>?_);go_simp;try refine ⟨_,_,⟨rfl,rfl⟩,?_⟩)|(refine wEG rfl (fun K hK=>?_);go_simp)|(refine wpE_actp rfl rfl (fun K hK=>?_);simp only [List.getElem_toArray,List.getElem_cons_succ,List.getElem_cons_zero];(first|((with_reducible refine op_makeSlice ?_);  refine makeBk _ _ rfl _ _ _ _ 10 10 G rfl rfl rfl rfl (by omega) (by omega) HG.out (fun w1 hg1 hF1=>?_))))|(refine wEA rfl (fun K hK=>?_);go_simp))))
  go_ret2
  refine ⟨⟨_,rfl⟩,v5,?_⟩
  have:=hW34.trans hW5
  rwa [List.append_assoc] at this
end Go.Proofs.Wx
