import Derived.Test.YtdokbceiganhdaaGreatDoorM8
import Derived.Test.YtdokbceiganhdaaGreatDoorM14
import Derived.Test.YtdokbceiganhdaaGreatDoorM31
import Derived.Test.YtdokbceiganhdaaGreatDoorM40
import Derived.Test.YtdokbceiganhdaaGreatDoorM41
import Derived.Test.YtdokbceiganhdaaGreatDoorM42
import Derived.Test.YtdokbceiganhdaaGreatDoorM43
set_option maxRecDepth 100000
set_option maxHeartbeats 1000000
set_option linter.unusedVariables false
set_option linter.unusedSimpArgs false
set_option linter.deprecated false
set_option linter.all false
set_option linter.unusedSectionVars false
namespace Go.Proofs.Wx
open Go Go.RowKit
set_option maxRecDepth 1000000 in
set_option maxHeartbeats 12800000 in
theorem extractV1G {ea : Addr} {w : World} {r sb p base B b c e : Nat} {v : Value} {data xs rest rest2 tail : List UInt8} (h : Rdr w r sb xs 0) (hx0 : xs = pragmaB ++ rest) (hd11 : xs.drop 11 = hdrB 0 0 c data.length e ++ rest2) (hdc : xs.drop c = data ++ tail) (hO : OptsAt w B b) (hG : Gl ea w) (hc : 51 ≤ c) (hc2 : c ≤ 1000) (h0 : 0 < data.length) (hd : data.length ≤ 1700000) (he : e < 1000000000)
    (hP : Blk w p [v,.int .i64 0] tMem (0,0)) (hV : OwnF base w v []) (hvp : v.ownBlock ≠ some p) (hbase : base ≤ w.heap.size) (hrp : r ≠ p) (hsp : sb ≠ p) (hvr : v.ownBlock ≠ some r) (hvs : v.ownBlock ≠ some sb) :
    Calls Tryz.prog 40 #[.iface 74 (.pointer (some ⟨r,0,none⟩)),MEMI p,.slice (some ⟨B,0,none⟩) 8 8] w fun e' w'=>e' = .returned .nilIface ∧
      ∃ v',Blk w' p [v',.int .i64 data.length] tMem (0,0) ∧ OwnF base w' v' data ∧ Fr (p :: r :: v.ownBlock.toList) w w':=by
  have hxl : c + data.length ≤ xs.length:=by
    have:=congrArg List.length hdc
    simp at this
    have : c ≤ xs.length ∨ xs.length < c:=by omega
    omega
  have hRV:=readVersion2 h hO hx0 hG
  have hlt:=h.lt
  have hge:=h.ge
  have hpl:=hP.lt
  obtain ⟨N,hN⟩ : ∃ N,Hid (N = data.length):=⟨_,rfl⟩
  have hHd:=fun (w' : World) (q : Nat) (hR : Rdr w' r sb xs 11) (hQ : Blk w' q [.int .u64 0,.int .u64 0,.int .u64 0,.int .u64 0,.int .u64 0] tHD (0,0)) (h1 : q ≠ r) (h2 : q ≠ sb)=>headerRead hR hd11 (by omega) (by omega) hc (by omega) h0 (by omega) he hQ h1 h2
  rw [← hN.out] at h0 hd hxl hHd ⊢
  have HX:=Lib.hid (And.intro hHd (And.intro hdc hxl))
  have hLN : Hid (((xs.drop c).take N).length = N):=by show _ = _;rw [hdc,hN.out];simp
  have hTN : Hid ((xs.drop c).take N = data):=by show _ = _;rw [hdc,hN.out];simp
  have H:=Lib.hid (And.intro hP (And.intro hV (And.intro hbase (And.intro hvr hvs))))
  have HC:=Lib.hid (And.intro hc2 (And.intro hd he))
  have wc:=w64_nat (x:=c) (by omega)
  have wN:=w64_nat (x:=N) (by omega)
  have H9:=Lib.hid (And.intro wc wN)
  clear wc wN
  have z1 : ¬ (c : Int) < 51:=by omega
  have z2 : ¬ (N : Int) ≤ 0:=by omega
  have z3 : (0 : Int) ≤ (N : Int):=by omega
  have wc:=H9.out.1
  have wN:=H9.out.2
  clear hc hc2 hd he hHd hdc hxl hP hV hbase hvr hvs hG h hd11 hO
  go_enter Tryz.func40,Tryz.ntmps40
  go_wp2_with (first
    | go_at_call 69;refine hRV.mono ?_;rintro e w1 ⟨rfl,hR1,hF1⟩;have hs1:=hF1.size
    | go_at_call 77;(with_reducible refine (HX.out.1 _ w1.heap.size (hR1.fr (S:=[]) (Fr.alloc Fr.refl) (by simp) (by simp)) (Blk.new (cs:=[_,_,_,_,_])) (by omega) (by omega)).mono ?_);rintro e w2 ⟨rfl,hR2,hQ2,hF2⟩;have qc2:=hQ2.cells;have hF02 : Fr [r] w w2:=Fr.trans (S:=[r]) (S':=[r,w1.heap.size]) (Fr.alloc hF1) hF2 (by intro k hk hl;simp at hk;rcases hk with h|h;simp [h];omega);have H2:=Lib.hid (And.intro hR2 (And.intro hQ2 hF02));clear hR2 hQ2 hF02 hF2 hR1 hF1
    | go_at_call 256;refine (seek_any H2.out.1 c 0 c (by have:=HC.out.1;omega) (.inl ⟨rfl,rfl⟩)).mono ?_;rintro e w3 ⟨rfl,hR3,hF3⟩;clear qc2;have hF03 : Fr [r] w w3:=H2.out.2.2.trans hF3 (by simp);have qc3:=(hF3.blk H2.out.2.1 (by simp;omega)).cells;have H3:=Lib.hid (And.intro hR3 hF03);clear hR3 hF03 hF3
    | go_at_call 78;refine (zzCopyG (n:=N) (i:=c) H3.out.1 (H3.out.2.blk H.out.1 (by simp;exact Ne.symm hrp)) (H.out.2.1.fr H3.out.2 (by simp;exact .inr H.out.2.2.2.1)) hvp (Nat.le_trans H.out.2.2.1 H3.out.2.size) h0 (by have:=HC.out.2.1;omega) HX.out.2.2 hrp hsp H.out.2.2.2.1 H.out.2.2.2.2).mono ?_;rintro e w4 ⟨rfl,v4,hP4,hO4,hF4⟩
    | go_at_call 271;obtain ⟨g4,c4,e4,_⟩:=hO4.form;rw [hLN.out] at e4;refine (memSize (n:=N) hP4 e4).mono ?_;rintro e w5 ⟨rfl,hF5⟩;have H5:=Lib.hid (And.intro hP4 (And.intro hO4 (And.intro hF4 hF5))))
  go_ret
  obtain ⟨hP4,hO4,hF4,hF5⟩:=H5.out
  rw [hTN.out] at hO4
  refine ⟨rfl,v4,hF5.blk hP4 (by simp),hO4.fr hF5 (by simp),Fr.trans (S:=p :: r :: v.ownBlock.toList) (S':=[]) (Fr.trans (S:=p :: r :: v.ownBlock.toList) (S':=p :: r :: v.ownBlock.toList) (H3.out.2.mono (by simp)) hF4 (fun k hk _=>hk)) hF5 (by simp)⟩
set_option maxRecDepth 1000000 in
set_option maxHeartbeats 12800000 in
theorem wrExtractG {ea aa : Addr} {w : World} {c e : Nat} {data xs rest rest2 tail : List UInt8} (hx0 : xs = pragmaB ++ rest) (hd11 : xs.drop 11 = hdrB 0 0 c data.length e ++ rest2) (hdc : xs.drop c = data ++ tail) (hxl : xs.length ≤ 100000000) (hG : Gl ea w) (hA : w.cell? ⟨0,0,none⟩ = some (.iface 223 (.pointer (some aa)))) (hc : 51 ≤ c) (hc2 : c ≤ 1000) (h0 : 0 < data.length) (hd : data.length ≤ 1700000) (he : e < 1000000000) :
    Calls Tryz.prog 16 #[.string ⟨xs.toArray⟩,.string ⟨#[]⟩,zeroOpts] w fun e' w'=>e' = .returned (.tuple #[.string ⟨data.toArray⟩,.int .u8 0]) ∧ Fr [] w w':=by
  have hgs:=hG.size
  have hal : 0 < 28:=by omega
  have ho0:=fun w=>options0 (w:=w)
  have hnr:=fun (w' : World) (sb sc : Nat) (hS : Bs w' sb 0 xs) (h1 : xs.length ≤ sc) (h2 : sc ≤ 9223372036854775807) (h3 : 28 ≤ w'.heap.size)=>newReader hS h1 ⟨by omega,h2⟩ h3
  have HC:=Lib.hid (And.intro hc (And.intro hc2 (And.intro h0 (And.intro hd (And.intro he (And.intro hx0 (And.intro hd11 hdc)))))))
  clear hc hc2 h0 hd he hx0 hd11 hdc
  obtain ⟨B0,hB0⟩ : ∃ B0,B0 = w.heap.size:=⟨_,rfl⟩
  go_enter Tryz.func16,Tryz.ntmps16
  go_wp2_with (first
    | ((with_reducible refine list_convert (fun K hK=>?_));  refine strF _ rfl B0 (by simp;omega) [] rfl (by simp) (fun v1 w1 hO1 hF1=>?_);obtain ⟨g1,c1,e1,hg1,hgl1,hc1⟩:=hO1.form;subst e1;have hF01 : Fr [] w w1:=Fr.trans (S:=[]) (by exact frP) hF1 (by simp);have hs1:=hF01.size;have hlt0 : w.heap.size < w1.heap.size:=(by have:=hF1.size;simp at this;omega);have oc1:=(hF1.blk (b:=w.heap.size) (cs:=[.bool false,.bool false,.bool false,.bool false,.bool false,.bool false,.int .u64 0,.int .u64 0,.int .u64 0,.int .u64 0,.int .u64 0,.int .u64 0]) (T:=40) (fr:=(0,0)) Blk.new (by simp)).cells;have H1:=Lib.hid (And.intro hO1 hF01);clear hO1 hF1 hF01)
    | ((with_reducible refine list_convert (fun K hK=>?_));  refine strB _ rfl xs rfl (by omega) (fun w2 C hC1 hC2 hB2 hF2=>?_);refine hK _ _ (Fr.ext hF2) ?_;have hP2 : Blk w2 w1.heap.size [.slice (some ⟨g1,0,none⟩) 0 c1,.int .i64 0] tMem (0,0):=hF2.blk (Blk.drew (Blk.new (cs:=[_,_]))) (by simp);have hF12 : Fr [] w1 w2:=Fr.trans (S:=[]) (S':=[]) (Fr.drew (Fr.alloc Fr.refl)) hF2 (by simp);have hB2' : Bs w2 (w1.heap.size + 1) 0 xs:=(by simpa using hB2);have hs2:=hB2'.lt;have hG2:=hG.fr (H1.out.2.trans hF12 (by simp)) (by simp);clear hF2 hB2)
    | go_at_call 33;refine (hnr _ _ _ hB2' hC1 hC2 hG2.size).mono ?_;rintro e w3 ⟨rfl,hR3,hF3⟩;(try go_simp);refine hK _ _ (Fr.ext hF3) ?_;have h3l:=hR3.lt
    | go_at_call 34;refine (ho0 _).mono ?_;rintro e w4 ⟨B,b,rfl,hO4,hb1,hb2,hF4⟩;have hF34 : Fr [] w2 w4:=hF3.trans (Fr.trans (S:=[]) (by exact frP) hF4 (by simp)) (by simp);have hR4:=hR3.fr (S:=[]) (Fr.trans (S:=[]) (by exact frP) hF4 (by simp)) (by simp) (by simp);have hs4:=hF34.size
    | go_at_call 40;have hF14 : Fr [] w1 w4:=hF12.trans hF34 (by simp);refine (extractV1G (base:=B0) hR4 HC.out.2.2.2.2.2.1 HC.out.2.2.2.2.2.2.1 HC.out.2.2.2.2.2.2.2 hO4 (hG2.fr hF34 (by simp)) HC.out.1 HC.out.2.1 HC.out.2.2.1 HC.out.2.2.2.1 HC.out.2.2.2.2.1 (hF34.blk hP2 (by simp)) (H1.out.1.fr hF14 (by simp)) (by simp [Value.ownBlock];omega) (by omega) (by omega) (by omega) (by simp [Value.ownBlock];omega) (by simp [Value.ownBlock];omega)).mono ?_;rintro e w5 ⟨rfl,v5,hP5,hV5,hF5⟩;have hF04 : Fr [] w w4:=H1.out.2.trans hF14 (by simp);have hF05 : Fr [] w w5:=Fr.trans (S:=[]) hF04 hF5 (by intro k hk hl;exfalso;rcases List.mem_cons.1 hk with h|hk;omega;rcases List.mem_cons.1 hk with h|hk;omega;have h3 : k = g1:=(by simpa [Value.ownBlock] using hk);omega);have hA5 : w5.cell? ⟨0,0,none⟩ = some (.iface 223 (.pointer (some aa))):=(by rw [World.cell?_of_block (w:=w) (hF05.block 0 (by omega) (by simp))];exact hA);obtain ⟨g5,c5,e5,_⟩:=hV5.form;subst e5;have pc5:=hP5.cells;obtain ⟨g5',c5',e5',_,hB5⟩:=hV5.bs;cases e5';clear oc1
    | ((with_reducible refine list_convert (fun K hK=>?_));  refine strOf _ rfl hB5 rfl rfl ?_)
    | (refine wre 2 [(0,.free),(4,.free),(5,.free),(6,.look),(1,.grow),(2,.grow),(3,.free),(7,.act),(8,.act),(9,.free)] ?_)
    | (with_reducible refine wEI ?_;(first|(refine wEN ?_;skip)|(refine wEF rfl (fun K hK=>?_);go_simp)|(refine wEL rfl rfl (fun K hK=>?_);go_simp)|(refine wER rfl (fun K hK=>?_);go_simp)|(refine wEM rfl (fun K hK=>?_);go_simp;try refine ⟨_,_,⟨rfl,rfl⟩,?_⟩)|(refine wpE_growp rfl rfl (fun K hK=>?_);simp only [List.getElem_toArray,List.getElem_cons_succ,List.getElem_cons_zero];(first|((with_reducible refine op_convert ?_);  refine strF _ rfl B0 (by simp;omega) [] rfl (by simp) (fun v1 w1 hO1 hF1=>?_);obtain ⟨g1,c1,e1,hg1,hgl1,hc1⟩:=hO1.form;subst e1;have hF01 : Fr [] w w1:=Fr.trans (S:=[]) (by exact frP) hF1 (by simp);have hs1:=hF01.size;have hlt0 : w.heap.size < w1.heap.size:=(by have:=hF1.size;simp at this;omega);have oc1:=(hF1.blk (b:=w.heap.size) (cs:=[.bool false,.bool false,.bool false,.bool false,.bool false,.bool false,.int .u64 0,.int .u64 0,.int .u64 0,.int .u64 0,.int .u64 0,.int .u64 0]) (T:=40) (fr:=(0,0)) Blk.new (by simp)).cells;have H1:=Lib.hid (And.intro hO1 hF01);clear hO1 hF1 hF01)|((with_reducible refine op_convert ?_);  refine strB _ rfl xs rfl (by omega) (fun w2 C hC1 hC2 hB2 hF2=>?_);refine hK _ _ (Fr.ext hF2) ?_;have hP2 : Blk w2 w1.heap.size [.slice (some ⟨g1,0,none⟩) 0 c1,.int .i64 0] tMem (0,0):=hF2.blk (Blk.drew (Blk.new (cs:=[_,_]))) (by simp);have hF12 : Fr [] w1 w2:=Fr.trans (S:=[]) (S':=[]) (Fr.drew (Fr.alloc Fr.refl)) hF2 (by simp);have hB2' : Bs w2 (w1.heap.size + 1) 0 xs:=(by simpa using hB2);have hs2:=hB2'.lt;have hG2:=hG.fr (H1.out.2.trans hF12 (by simp)) (by simp);clear hF2 hB2)|((with_reducible refine op_convert ?_);  refine strOf _ rfl hB5 rfl rfl ?_)))|(refine wEG rfl (fun K hK=>?_);go_simp)|(refine wpE_actp rfl rfl (fun K hK=>?_);simp only [List.getElem_toArray,List.getElem_cons_succ,List.getElem_cons_zero];(first|((with_reducible refine op_convert ?_);  refine strF _ rfl B0 (by simp;omega) [] rfl (by simp) (fun v1 w1 hO1 hF1=>?_);obtain ⟨g1,c1,e1,hg1,hgl1,hc1⟩:=hO1.form;subst e1;have hF01 : Fr [] w w1:=Fr.trans (S:=[]) (by exact frP) hF1 (by simp);have hs1:=hF01.size;have hlt0 : w.heap.size < w1.heap.size:=(by have:=hF1.size;simp at this;omega);have oc1:=(hF1.blk (b:=w.heap.size) (cs:=[.bool false,.bool false,.bool false,.bool false,.bool false,.bool false,.int .u64 0,.int .u64 0,.int .u64 0,.int .u64 0,.int .u64 0,.int .u64 0]) (T:=40) (fr:=(0,0)) Blk.new (by simp)).cells;have H1:=Lib.hid (And.intro hO1 hF01);clear hO1 hF1 hF01)|((with_reducible refine op_convert ?_);  refine strB _ rfl xs rfl (by omega) (fun w2 C hC1 hC2 hB2 hF2=>?_);refine hK _ _ (Fr.ext hF2) ?_;have hP2 : Blk w2 w1.heap.size [.slice (some ⟨g1,0,none⟩) 0 c1,.int .i64 0] tMem (0,0):=hF2.blk (Blk.drew (Blk.new (cs:=[_,_]))) (by simp);have hF12 : Fr [] w1 w2:=Fr.trans (S:=[]) (S':=[]) (Fr.drew (Fr.alloc Fr.refl)) hF2 (by simp);have hB2' : Bs w2 (w1.heap.size + 1) 0 xs:=(by simpa using hB2);have hs2:=hB2'.lt;have hG2:=hG.fr (H1.out.2.trans hF12 (by simp)) (by simp);clear hF2 hB2)|((with_reducible refine op_convert ?_);  refine strOf _ rfl hB5 rfl rfl ?_)))|(refine wEA rfl (fun K hK=>?_);go_simp))))
  go_ret2
  exact ⟨rfl,hF05⟩
end Go.Proofs.Wx

namespace Go.Proofs.Wx
open Go Go.RowKit
def Apart2 (x y : Itm) : Prop:=x.1.dig ≠ y.1.dig
def on3Rel (w : World) (l : List Itm) (k : Nat) (s : Value) (wr : World) : Prop :=
  ∃ i,s = .int .i64 (i : Nat) ∧ i + k = l.length ∧ Distinct (l.take i) ∧ Fr [] w wr
def on4Rel (w : World) (l : List Itm) (x : Itm) (n k : Nat) (s : Value) (wr : World) : Prop :=
  ∃ j,s = .int .i64 (j : Nat) ∧ j + k = n ∧ (∀ y ∈ l.take j,Apart2 y x) ∧ Fr [] w wr
set_option maxRecDepth 1000000 in
set_option maxHeartbeats 12800000 in
theorem spOnceS {w : World} {v : Value} {l : List Itm} (h : EntsAt w v l) (hl : l.length ≤ 50) : Calls Tryz.prog 7 #[v,.int .u64 1024] w fun e w'=>IsB (fun b=>b = true → Distinct l) e ∧ Fr [] w w':=by
  obtain ⟨ad,c,rfl,hv⟩ : ∃ ad c,v = .slice ad l.length c ∧ (l ≠ [] → ∃ g,ad = some ⟨g,0,none⟩ ∧ g < w.heap.size ∧ l.length ≤ c):=by
    rcases h with ⟨rfl,a,c,rfl⟩|⟨g,c,rest,h1,h3,h2⟩
    · exact ⟨a,c,rfl,fun h=>absurd rfl h⟩
    · exact ⟨_,c,h1,fun _=>⟨g,rfl,h2.lt,h3⟩⟩
  have HE:=Lib.hid (And.intro h hl)
  have hlz : (l.length : Int) ≤ 50:=by omega
  clear h hl
  go_enter Tryz.func7,Tryz.ntmps7
  go_wp2
  go_loopg [11] l.length (fun k s wr=>on3Rel w l k s wr)
  case atStart=>exact ⟨0,rfl,by omega,by simp [Distinct],Fr.refl⟩
  case round =>
    obtain ⟨i,rfl,hik,hon,hFr⟩:=hrel
    by_cases hi : i < l.length
    · have hz : (i : Int) < (l.length : Int):=by omega
      obtain ⟨g,rfl,hgl,hlc⟩:=hv (by intro e;rw [e] at hi;simp at hi)
      obtain ⟨x,hx⟩ : ∃ x,x = l[i]:=⟨_,rfl⟩
      have hgc : l[i]? = some x:=by rw [hx];simp [hi]
      have hEr:=HE.out.1.fr hFr (by simp)
      obtain ⟨x1,x2,x3,x4,x5⟩:=hEr.cells hgc
      have hi2 : (i : Int) ≤ (c : Int):=by omega
      have HQ:=Lib.hid (And.intro hik (And.intro hgc hon))
      clear hik hgc hon hx hi
      go_wp2
      have hT0 : Blk (wr.alloc (.cells (enL x).toArray tEN)) wr.heap.size (enL x) tEN (0,0):=Blk.newAt rfl
      have hF0 : Fr [] wr (wr.alloc (.cells (enL x).toArray tEN)):=Fr.alloc Fr.refl
      unfold enL at hT0 hF0
      generalize wr.alloc _ = w2 at *
      generalize wr.heap.size = T at *
      have hF02:=hFr.trans hF0 (by simp)
      clear hEr x1 x2 x3 x4 x5 hFr hF0
      go_loopg [20] i (fun k s w3=>on4Rel w2 l x i k s w3)
      case atStart=>exact ⟨0,rfl,by omega,by simp,Fr.refl⟩
      case round =>
        rename World=>w3
        obtain ⟨j,rfl,hjk,hap,hF3⟩:=hrel
        have hT3:=hF3.blk hT0 (by simp)
        have tc:=hT3.cells
        have hFx:=hF02.trans hF3 (by simp)
        clear hT0
        by_cases hj : j < i
        · have hz2 : (j : Int) < (i : Int):=by omega
          have hjl : j < l.length:=by omega
          obtain ⟨y,hy⟩ : ∃ y,y = l[j]:=⟨_,rfl⟩
          have hgj : l[j]? = some y:=by rw [hy];simp [hjl]
          obtain ⟨y1,y2,y3,y4,y5⟩:=(HE.out.1.fr hFx (by simp)).cells hgj
          have HJ:=Lib.hid (And.intro hjk (And.intro hgj hap))
          clear hjk hgj hap hy
          have hTl:=hT3.lt
          by_cases hd : x.1.dig = y.1.dig
          · have hdn : x.1.dig.toArray = y.1.dig.toArray:=by rw [hd]
            have Hd:=Lib.hid hd
            clear hd
            go_wp2
            go_ret
            exact ⟨⟨_,rfl,by intro h;cases h⟩,Fr.trans (S:=[]) (S':=[]) hFx (by exact frP) (by simp)⟩
          · have hdn : ¬ x.1.dig.toArray = y.1.dig.toArray:=fun e=>hd (by simpa using e)
            have Hd:=Lib.hid hd
            clear hd
            go_wp2
            go_roundg (i - (j + 1))
            case measure=>have:=HJ.out.1;omega
            case rel =>
              refine ⟨j + 1,by first|(rw [wrap64_1 (by have:=HE.out.2;omega)];done)|(simp;done),by have:=HJ.out.1;omega,?_,Fr.trans (S:=[]) (S':=[]) hF3 (by exact frP) (by simp)⟩
              obtain ⟨_,hgj,hap⟩:=HJ.out
              rw [List.take_succ,hgj]
              intro z hz
              rcases List.mem_append.1 hz with hz|hz
              · exact hap z hz
              · simp at hz;subst hz;exact fun e=>Hd.out e.symm
        · have hz2 : ¬ (j : Int) < (i : Int):=by omega
          have hji : j = i:=by omega
          have HJ:=Lib.hid (And.intro hji hap)
          clear hji hap hjk
          go_wp2
          go_roundg (l.length - (i + 1))
          case measure=>have:=HQ.out.1;omega
          case rel =>
            refine ⟨i + 1,by first|(rw [wrap64_1 (by omega)];done)|(simp;done),by have:=HQ.out.1;omega,?_,hFx⟩
            obtain ⟨hik,hgc,hon⟩:=HQ.out
            rw [List.take_succ,hgc]
            unfold Distinct at *
            rw [List.pairwise_append]
            refine ⟨hon,by simp,fun y hy z hz=>?_⟩
            simp at hz
            subst hz
            have:=HJ.out.2 y (by rw [HJ.out.1];exact hy)
            exact this
    · have hz : ¬ (i : Int) < (l.length : Int):=by omega
      have hie : i = l.length:=by omega
      have HI:=Lib.hid (And.intro hie hon)
      clear hie hik hon
      go_wp2
      go_ret
      refine ⟨⟨_,rfl,fun _=>?_⟩,hFr⟩
      have:=HI.out.2
      rw [HI.out.1,List.take_length] at this
      exact this
end Go.Proofs.Wx

namespace Go.Proofs.Wx
open Go Go.RowKit
def zer (n : Nat) : List UInt8:=List.replicate n 0
/-- The file with its index: d bytes left free ahead of the data, i ahead of the index. -/
def finB (d i : Nat) (s idx : List UInt8) : List UInt8:=pragmaB ++ (hdrB 0 0 (51 + d) s.length (51 + s.length + (d + i)) ++ (zer d ++ (s ++ (zer i ++ idx))))
theorem bare_len (d : Nat) (s : List UInt8) : (fileB 0 0 (51 + d) s.length 0 s []).length = 51 + d + s.length:=by
  simp [fileB,hdrB_length,pragmaB];omega
theorem bare_11 (d : Nat) (s : List UInt8) : (fileB 0 0 (51 + d) s.length 0 s []).drop 11 = hdrB 0 0 (51 + d) s.length 0 ++ (zer d ++ s):=by
  unfold fileB zer;rw [List.drop_left' (by decide)];simp
theorem bare_d (d : Nat) (s : List UInt8) : (fileB 0 0 (51 + d) s.length 0 s []).drop (51 + d) = s ++ []:=by
  have h : 51 + d = 11 + (40 + d):=by omega
  have e : (fileB 0 0 (51 + d) s.length 0 s []).drop (51 + d) = ((fileB 0 0 (51 + d) s.length 0 s []).drop 11).drop (40 + d):=by rw [List.drop_drop,h]
  rw [e,bare_11,← List.drop_drop,List.drop_left' (hdrB_length _ _ _ _ _),List.drop_left' (by simp [zer])];simp
theorem att_len {d i : Nat} {s idx : List UInt8} (h : idx ≠ []) : (owC (fileB 0 0 (51 + d) s.length 0 s []) (51 + s.length + (d + i)) idx).length = 51 + s.length + (d + i) + idx.length:=by
  have:=bare_len d s
  simp only [owC,h,if_false,List.length_append,List.length_replicate,this];omega
theorem att_eq {d i : Nat} {s idx : List UInt8} (h : idx ≠ []) : owC (fileB 0 0 (51 + d) s.length 0 s []) (51 + s.length + (d + i)) idx = pragmaB ++ (hdrB 0 0 (51 + d) s.length 0 ++ (zer d ++ (s ++ (zer i ++ idx)))):=by
  have h1:=bare_len d s
  simp only [owC,h,if_false,h1]
  rw [show 51 + s.length + (d + i) - (51 + d + s.length) = i by omega]
  simp [fileB,zer]
theorem fin_eq {d i : Nat} {s idx : List UInt8} (h : idx ≠ []) :
    (owC (fileB 0 0 (51 + d) s.length 0 s []) (51 + s.length + (d + i)) idx).take 11 ++ hdrB 0 0 (51 + d) s.length (51 + s.length + (d + i)) ++ (owC (fileB 0 0 (51 + d) s.length 0 s []) (51 + s.length + (d + i)) idx).drop 51 = finB d i s idx:=by
  rw [att_eq h,List.take_left' (by decide),show 51 = 11 + 40 from rfl,← List.drop_drop,List.drop_left' (by decide),List.drop_left' (hdrB_length _ _ _ _ _)]
  simp [finB]
theorem fin_11 (d i : Nat) (s idx : List UInt8) : (finB d i s idx).drop 11 = hdrB 0 0 (51 + d) s.length (51 + s.length + (d + i)) ++ (zer d ++ (s ++ (zer i ++ idx))):=by
  unfold finB;rw [List.drop_left' (by decide)]
theorem fin_d (d i : Nat) (s idx : List UInt8) : (finB d i s idx).drop (51 + d) = s ++ (zer i ++ idx):=by
  rw [show 51 + d = 11 + (40 + d) by omega,← List.drop_drop,fin_11,← List.drop_drop,List.drop_left' (hdrB_length _ _ _ _ _),List.drop_left' (by simp [zer])]
theorem fin_x (d i : Nat) (s idx : List UInt8) : (finB d i s idx).drop (51 + s.length + (d + i)) = idx:=by
  rw [show 51 + s.length + (d + i) = 51 + d + (s.length + i) by omega,← List.drop_drop,fin_d,← List.drop_drop,List.drop_left' rfl,List.drop_left' (by simp [zer])]
theorem fin_len (d i : Nat) (s idx : List UInt8) : (finB d i s idx).length = 51 + s.length + (d + i) + idx.length:=by
  simp [finB,hdrB_length,pragmaB,zer];omega
end Go.Proofs.Wx

namespace Go.Proofs.Wx
open Go Go.RowKit
abbrev oRoLaw0 : List (Nat × Cls):=[(0,.free),(1,.free),(2,.look),(5,.free),(6,.free),(3,.act),(4,.free),(7,.free),(8,.free)]
theorem spOnceK {k : Nat} {w : World} {v : Value} {l : List Itm} (hk : k = 1024 ∨ k = 1025) (h : EntsAt w v l) (hl : l.length ≤ 50) : Calls Tryz.prog 7 #[v,.int .u64 k] w fun e w'=>IsB (fun b=>b = true → OnceK k l) e ∧ Fr [] w w':=by
  rcases hk with rfl|rfl
  · simpa [OnceK] using spOnceS h hl
  · simpa [OnceK] using spOnce h hl
theorem cutFile {zs hs fs : List UInt8} {n : Nat} (h : zs.take 11 ++ hs ++ zs.drop 51 = fs) (hn : n = zs.length) : ((⟨zs.toArray⟩ : ByteArray).extract 0 11) ++ ⟨hs.toArray⟩ ++ ((⟨zs.toArray⟩ : ByteArray).extract 51 n) = ⟨fs.toArray⟩:=by
  subst hn
  apply ByteArray.ext
  simp [← h,List.take_of_length_le]
theorem uvK_len {k : Nat} (hk : k = 1024 ∨ k = 1025) : (Lib.uvarint k).length = 2:=by
  rcases hk with rfl|rfl
  · rw [uv1024];rfl
  · rw [uv1025];rfl
set_option maxRecDepth 1000000 in
set_option maxHeartbeats 12800000 in
theorem raMain {ea aa : Addr} {w : World} {ra ba : Option Addr} {rc bc k d i : Nat} {c : CarM} (h : CarAt w ra ba c) (hG : Gl ea w) (hA : w.cell? ⟨0,0,none⟩ = some (.iface 223 (.pointer (some aa)))) (hne : c.blocks ≠ []) (hk2 : k = 1024 ∨ k = 1025) (hd : d ≤ 255) (hi : i ≤ 255) :
    Calls Tryz.prog 3 #[carA ra ba rc bc c,.int .u64 k,.int .u8 d,.int .u8 i] w fun e w'=>e = .returned (.bool true) ∧ Fr [] w w':=by
  have hgs:=hG.size
  have hLen : LenC:=LenC.holds
  have hfit:=fun (w' : World) (hF : Fr [] w w')=>zzFits4 (rc:=rc) (bc:=bc) (h.ext (Fr.ext hF))
  have hgood:=fun (w' : World) (hF : Fr [] w w')=>spGood (rc:=rc) (bc:=bc) (h.ext (Fr.ext hF))
  have hgen:=fun (w' : World) (hF : Fr [] w w') (hok : c.Ok)=>spGenerated (rc:=rc) (bc:=bc) (h.ext (Fr.ext hF)) hok
  have honc:=fun (w' : World) (v : Value) (hE : EntsAt w' v c.ents) (hok : c.Ok)=>spOnceK hk2 hE hok.ents.2
  have hcar:=fun (w' : World) (hF : Fr [] w w') (hok : c.Ok)=>spCar1 (rc:=rc) (bc:=bc) (h.ext (Fr.ext hF)) hok
  have hwf:=fun (w' : World) (hF : Fr [] w w') (hok : c.Ok)=>spWrFileG (rc:=rc) (bc:=bc) (h.ext (Fr.ext hF)) hok hd
  have hcn:=fun (w' : World) (hok : c.Ok)=>c2New (w:=w') (n:=c.bytes.length) hok.length.1
  have hcp:=fun (w' : World) (hok : c.Ok)=>c2Pad (w:=w') (n:=c.bytes.length) hok.length.1 hd hi
  have hcb:=fun (w' : World) (hok : c.Ok)=>c2Bytes (w:=w') (x:=51 + d) (y:=c.bytes.length) (z:=51 + c.bytes.length + (d + i)) (by omega) (by have:=hok.length.1;omega) (by have:=hok.length.1;omega)
  have hmk:=fun (w' : World) (hF : Fr [] w w') (hok : c.Ok) (hon : OnceK k c.ents)=>ixMakeK (w:=w') hk2 hok hne hon (hG.fr hF (by simp)) (X:=51 + d) (z:=0) (xs:=fileB 0 0 (51 + d) c.bytes.length 0 c.bytes []) rfl (bare_11 d c.bytes) (bare_d d c.bytes) (by omega) (by omega) (by omega) (by have:=bare_len d c.bytes;have:=hok.length.1;omega) hLen
  have hat:=fun (w' : World) (ev : Value) (hE : EntsAt w' ev c.ents) (hok : c.Ok) (hon : OnceK k c.ents)=>wrAttachK (off:=51 + c.bytes.length + (d + i)) (zs:=fileB 0 0 (51 + d) c.bytes.length 0 c.bytes []) hk2 hE hok.ents.1 hok.ents.2 hon (by have:=bare_len d c.bytes;omega) (by have:=hok.length.1;omega) (by have:=bare_len d c.bytes;have:=hok.length.1;omega) hLen
  have hul:=uvK_len hk2
  have hyl : c.Ok → (Lib.uvarint k ++ bodyB k c.ents).length ≤ 20000:=fun hok=>by
    have h1:=bodyB_len (k:=k) (l:=c.ents) (fun e he=>(hok.ents.1 e he).1.len)
    have h2:=hok.ents.2
    rw [List.length_append,hul];omega
  have hyn : Lib.uvarint k ++ bodyB k c.ents ≠ []:=by intro e;have:=congrArg List.length e;simp [hul] at this
  have hfl:=fin_len d i c.bytes (Lib.uvarint k ++ bodyB k c.ents)
  have how:=fun (w' : World) (hF : Fr [] w w') (hok : c.Ok)=>ixOwnK (w:=w') (l:=c.ents) (fs:=finB d i c.bytes (Lib.uvarint k ++ bodyB k c.ents)) (x:=51 + d) (y:=c.bytes.length) (z:=51 + c.bytes.length + (d + i)) (rest3:=[]) hk2 (hG.fr hF (by simp)) rfl (fin_11 _ _ _ _) (by rw [fin_x];simp) (by have:=hok.length.1;have:=hyl hok;omega) (by omega) (by omega) (by omega) (by have:=hok.length.2;omega) (by have:=hok.length.1;omega) (by omega) hok.ents.2 (fun e he=>(hok.ents.1 e he).1.len) (fun e he=>(hok.ents.1 e he).1.code_lt) hLen
  have hex:=fun (w' : World) (hF : Fr [] w w') (hok : c.Ok)=>wrExtractG (w:=w') (aa:=aa) (data:=c.bytes) (xs:=finB d i c.bytes (Lib.uvarint k ++ bodyB k c.ents)) (c:=51 + d) (e:=51 + c.bytes.length + (d + i)) rfl (fin_11 _ _ _ _) (fin_d _ _ _ _) (by have:=hok.length.1;have:=hyl hok;omega) (hG.fr hF (by simp)) (by rw [World.cell?_of_block (w:=w) (hF.block 0 (by omega) (by simp))];exact hA) (by omega) (by omega) (by have:=hok.length.2;omega) hok.length.1 (by have:=hok.length.1;omega)
  have hal:=att_len (d:=d) (i:=i) (s:=c.bytes) hyn
  have hfe:=fin_eq (d:=d) (i:=i) (s:=c.bytes) hyn
  obtain ⟨xs,hxs⟩ : ∃ xs,Hid (xs = c.bytes):=⟨_,rfl⟩
  obtain ⟨ys,hys⟩ : ∃ ys,Hid (ys = Lib.uvarint k ++ bodyB k c.ents):=⟨_,rfl⟩
  simp only [← hxs.out] at hcar hwf hcn hcp hcb hmk hat how hex hal hfe hfl
  simp only [← hys.out] at hmk hat how hex hal hfe hfl hyl
  have hlx : c.Ok → xs.length ≤ 1700000 ∧ 1 ≤ xs.length:=fun hok=>by rw [hxs.out];exact hok.length
  obtain ⟨off,ho⟩ : ∃ off,Hid (off = 51 + xs.length + (d + i)):=⟨_,rfl⟩
  simp only [← ho.out] at hcp hcb hat how hex hal hfe hfl
  obtain ⟨bs,hbs⟩ : ∃ bs,Hid (bs = fileB 0 0 (51 + d) xs.length 0 xs []):=⟨_,rfl⟩
  simp only [← hbs.out] at hwf hmk hat hal hfe
  obtain ⟨zs,hzs⟩ : ∃ zs,Hid (zs = owC bs off ys):=⟨_,rfl⟩
  simp only [← hzs.out] at hat hal hfe
  obtain ⟨fs,hfs⟩ : ∃ fs,Hid (fs = finB d i xs ys):=⟨_,rfl⟩
  simp only [← hfs.out] at how hex hfe hfl
  obtain ⟨hs,hhs⟩ : ∃ hs,Hid (hs = hdrB 0 0 (51 + d) xs.length off):=⟨_,rfl⟩
  simp only [← hhs.out] at hcb hfe
  obtain ⟨cd,hcd⟩ : ∃ cd,Hid (cd = 51 + d):=⟨_,rfl⟩
  simp only [← hcd.out] at hcp hcb
  obtain ⟨kz,hkz⟩ : ∃ kz : Int,Hid (kz = (k : Int)):=⟨_,rfl⟩
  unfold codecOpts at hmk
  simp only [← hkz.out] at honc hmk hat ⊢
  have hoz:=ho.out
  have hcut:=cutFile hfe (n:=zs.length) rfl
  have hw : c.Ok → IntKind.u64.wrap (xs.length : Int) = (xs.length : Int) ∧ IntKind.u64.wrap (zs.length : Int) = (off : Int) + (ys.length : Int) ∧ IntKind.u64.wrap (ys.length : Int) = (ys.length : Int) ∧ IntKind.u64.wrap ((off : Int) + (ys.length : Int)) = (off : Int) + (ys.length : Int) ∧ ¬ (zs.length : Int) < 51 ∧ (51 : Int) ≤ (zs.length : Int) ∧ (11 : Int) ≤ (zs.length : Int):=fun hok=>by
    have h1:=hlx hok
    have h2:=hyl hok
    refine ⟨?_,?_,?_,?_,?_,?_,?_⟩ <;> (try rw [IntKind.wrap_u64]) <;> omega
  have wd : IntKind.u64.wrap (d : Int) = (d : Int):=by rw [IntKind.wrap_u64];omega
  have wi : IntKind.u64.wrap (i : Int) = (i : Int):=by rw [IntKind.wrap_u64];omega
  have HA:=Lib.hid (And.intro hfit (And.intro hgood (And.intro hgen (And.intro honc (And.intro hcar (And.intro hcn hcp))))))
  have HB:=Lib.hid (And.intro hwf (And.intro hmk (And.intro hat (And.intro hcb (And.intro how (And.intro hex (And.intro hw hcut)))))))
  have hzz : c.Ok → zs.length + hs.length ≤ 3000000:=fun hok=>by
    have h1:=hlx hok
    have h2:=hyl hok
    have h3:=hdrB_length 0 0 (51 + d) xs.length off
    rw [← hhs.out] at h3;omega
  have HZ:=Lib.hid hzz
  have hkk : kz = 1024 ∨ kz = 1025:=by have:=hkz.out;omega
  have HK:=Lib.hid hkk
  clear hfit hgood hgen honc hcar hcn hcp hwf hmk hat hcb how hex hw hcut hoz hfe hfl hal hyl hyn hul hlx hA hG h hd hi hLen hgs hk2 hkk hzz
  rcases HK.out with hz|hz
  · clear HK
    have hk1 : (kz != 1024) = false:=by simp [hz]
    clear hz
    go_enter Tryz.func3,Tryz.ntmps3
    go_wp2_with (first
      | go_at_call 4;refine (HA.out.1 _ (by exact frP)).mono ?_;rintro e w1 ⟨⟨b1,rfl,hq1⟩,hF1⟩;have hF01 : Fr [] w w1:=Fr.trans (S:=[]) (S':=[]) (Fr.alloc Fr.refl) hF1 (by simp);have hT1:=hF1.blk (b:=w.heap.size) (cs:=[.slice ra c.roots.length rc,.slice ba c.blocks.length bc]) (T:=25) (fr:=(0,0)) Blk.new (by simp);have tc1:=hT1.cells;clear hq1 hF1
      | go_at_call 5;refine (HA.out.2.1 _ hF01).mono ?_;rintro e w2 ⟨⟨b2,rfl,hq2⟩,hF2⟩;have hF02:=hF01.trans hF2 (by simp);have hT2:=hF2.blk hT1 (by simp);have tc2:=hT2.cells;clear tc1 hF2 hT1;(cases b2)
      | go_at_call 6;have hok : c.Ok:=hq2 (by first|trivial|rfl);have HO:=Lib.hid hok;clear hok hq2;refine (HA.out.2.2.1 _ hF02 HO.out).mono ?_;rintro e w3 ⟨v3,rfl,hE3,hF3⟩;have hF03:=hF02.trans hF3 (by simp);have hT3:=hF3.blk hT2 (by simp);have tc3:=hT3.cells;clear tc2 hF3 hT2
      | go_at_call 7;(with_reducible refine (HA.out.2.2.2.1 _ _ hE3 HO.out).mono ?_);rintro e w4 ⟨⟨b4,rfl,hq4⟩,hF4⟩;have hF04:=hF03.trans hF4 (by simp);have hT4:=hF4.blk hT3 (by simp);have tc4:=hT4.cells;have hE4:=hE3.fr hF4 (by simp);clear tc3 hF4 hT3 hE3
      | go_at_call 8;have hon : OnceK k c.ents:=hq4 (by simpa using (show (!b4) = false by assumption));have HN:=Lib.hid hon;clear hon hq4;refine (HA.out.2.2.2.2.1 _ hF04 HO.out).mono ?_;rintro e w5 ⟨rfl,hF5⟩;have hF05:=hF04.trans hF5 (by simp);have hT5:=hF5.blk hT4 (by simp);have tc5:=hT5.cells;have hE5:=hE4.fr hF5 (by simp);clear tc4 hF5 hT4 hE4;obtain ⟨wx,wz,wy,wo,hz51,hz51',hz11⟩:=HB.out.2.2.2.2.2.2.1 HO.out
      | go_at_call 10;(with_reducible refine (HA.out.2.2.2.2.2.1 _ HO.out).mono ?_);rintro e w6 ⟨rfl,hF6⟩;have hF06:=hF05.trans hF6 (by simp);have hT6:=hF6.blk hT5 (by simp);have tc6:=hT6.cells;have hE6:=hE5.fr hF6 (by simp);clear tc5 hF6 hT5 hE5
      | go_at_call 9;(with_reducible refine (HA.out.2.2.2.2.2.2 _ HO.out).mono ?_);rintro e w7 ⟨rfl,hF7⟩;have hF07:=hF06.trans hF7 (by simp);have hT7:=hF7.blk hT6 (by simp);have tc7:=hT7.cells;have hE7:=hE6.fr hF7 (by simp);clear tc6 hF7 hT6 hE6
      | (with_reducible refine list_store 33 (fun K hK=>?_);  refine storeRow _ _ _ rfl w7.heap.size [.int .u64 0,.int .u64 0,.int .u64 cd,.int .u64 xs.length,.int .u64 off] rfl rfl _ _ (Blk.newAt rfl) (by kernel_rfl) rfl rfl (fun w8 hH8 hF8=>?_);have hF78 : Fr [] w7 w8:=Fr.trans (S:=[]) (by exact frP) hF8 (by simp);have hF08:=hF07.trans hF78 (by simp);have hT8:=hF78.blk hT7 (by simp);have tc8:=hT8.cells;have hE8:=hE7.fr hF78 (by simp);have hc8:=hH8.cells;clear tc7 hF8 hF78 hT7 hE7)
      | go_at_call 11;refine (HB.out.1 _ hF08 HO.out).mono ?_;rintro e w9 ⟨rfl,hF9⟩;have hF09:=hF08.trans hF9 (by simp);have hH9:=hF9.blk hH8 (by simp);have hc9:=hH9.cells;have hE9:=hE8.fr hF9 (by simp);clear tc8 hF9 hT8 hE8 hc8 hH8
      | go_at_call 12;(with_reducible refine (HB.out.2.1 _ hF09 HO.out HN.out).mono ?_);rintro e wa ⟨rfl,hFa⟩;have hF0a:=hF09.trans hFa (by simp);have hHa:=hFa.blk hH9 (by simp);have hca:=hHa.cells;have hEa:=hE9.fr hFa (by simp);clear hFa hE9 hc9 hH9
      | go_at_call 13;(with_reducible refine (HB.out.2.2.1 _ _ hEa HO.out HN.out).mono ?_);rintro e wb ⟨rfl,hFb⟩;have hF0b:=hF0a.trans hFb (by simp);have hHb:=hFb.blk hHa (by simp);have hcb:=hHb.cells;clear hFb hEa hca hHa
      | go_at_call 14;refine (HB.out.2.2.2.1 _ HO.out).mono ?_;rintro e wc ⟨rfl,hFc⟩;have hF0c : Fr [] w wc:=(Fr.drew hF0b).trans hFc (by simp);clear hFc hHb hcb
      | go_at_call 15;rw [HB.out.2.2.2.2.2.2.2];(with_reducible refine (HB.out.2.2.2.2.1 _ hF0c HO.out).mono ?_);rintro e wd ⟨rfl,hFd⟩;have hF0d:=hF0c.trans hFd (by simp);clear hFd
      | go_at_call 16;(with_reducible refine (HB.out.2.2.2.2.2.1 _ hF0d HO.out).mono ?_);rintro e we ⟨rfl,hFe⟩;have hF0e:=hF0d.trans hFe (by simp);clear hFe
      | (refine wre 15 oRoLaw0 ?_)
      | (with_reducible refine wEI ?_;(first|(refine wEN ?_;skip)|(refine wEF rfl (fun K hK=>?_);go_simp)|(refine wEL rfl rfl (fun K hK=>?_);go_simp)|(refine wER rfl (fun K hK=>?_);go_simp)|(refine wEM rfl (fun K hK=>?_);go_simp;try refine ⟨_,_,⟨rfl,rfl⟩,?_⟩)|(refine wpE_growp rfl rfl (fun K hK=>?_);simp only [List.getElem_toArray,List.getElem_cons_succ,List.getElem_cons_zero];(first|(with_reducible refine op_store 33 ?_;  refine storeRow _ _ _ rfl w7.heap.size [.int .u64 0,.int .u64 0,.int .u64 cd,.int .u64 xs.length,.int .u64 off] rfl rfl _ _ (Blk.newAt rfl) (by kernel_rfl) rfl rfl (fun w8 hH8 hF8=>?_);have hF78 : Fr [] w7 w8:=Fr.trans (S:=[]) (by exact frP) hF8 (by simp);have hF08:=hF07.trans hF78 (by simp);have hT8:=hF78.blk hT7 (by simp);have tc8:=hT8.cells;have hE8:=hE7.fr hF78 (by simp);have hc8:=hH8.cells;clear tc7 hF8 hF78 hT7 hE7)))|(refine wEG rfl (fun K hK=>?_);go_simp)|(refine wpE_actp rfl rfl (fun K hK=>?_);simp only [List.getElem_toArray,List.getElem_cons_succ,List.getElem_cons_zero];(first|(with_reducible refine op_store 33 ?_;  refine storeRow _ _ _ rfl w7.heap.size [.int .u64 0,.int .u64 0,.int .u64 cd,.int .u64 xs.length,.int .u64 off] rfl rfl _ _ (Blk.newAt rfl) (by kernel_rfl) rfl rfl (fun w8 hH8 hF8=>?_);have hF78 : Fr [] w7 w8:=Fr.trans (S:=[]) (by exact frP) hF8 (by simp);have hF08:=hF07.trans hF78 (by simp);have hT8:=hF78.blk hT7 (by simp);have tc8:=hT8.cells;have hE8:=hE7.fr hF78 (by simp);have hc8:=hH8.cells;clear tc7 hF8 hF78 hT7 hE7)))|(refine wEA rfl (fun K hK=>?_);go_simp))))
    · go_ret
      exact ⟨rfl,hF01⟩
    · go_ret
      exact ⟨rfl,hF02⟩
    · go_ret
      exact ⟨rfl,hF02⟩
    · go_ret
      exact ⟨rfl,hF04⟩
    · have:=HZ.out HO.out;omega
    · have:=HZ.out HO.out;omega
    · go_ret
      exact ⟨rfl,hF0e⟩
  · clear HK
    have hk1 : (kz != 1024) = true:=by simp [hz]
    have hk2 : (kz != 1025) = false:=by simp [hz]
    clear hz
    go_enter Tryz.func3,Tryz.ntmps3
    go_wp2_with (first
      | go_at_call 4;refine (HA.out.1 _ (by exact frP)).mono ?_;rintro e w1 ⟨⟨b1,rfl,hq1⟩,hF1⟩;have hF01 : Fr [] w w1:=Fr.trans (S:=[]) (S':=[]) (Fr.alloc Fr.refl) hF1 (by simp);have hT1:=hF1.blk (b:=w.heap.size) (cs:=[.slice ra c.roots.length rc,.slice ba c.blocks.length bc]) (T:=25) (fr:=(0,0)) Blk.new (by simp);have tc1:=hT1.cells;clear hq1 hF1
      | go_at_call 5;refine (HA.out.2.1 _ hF01).mono ?_;rintro e w2 ⟨⟨b2,rfl,hq2⟩,hF2⟩;have hF02:=hF01.trans hF2 (by simp);have hT2:=hF2.blk hT1 (by simp);have tc2:=hT2.cells;clear tc1 hF2 hT1;(cases b2)
      | go_at_call 6;have hok : c.Ok:=hq2 (by first|trivial|rfl);have HO:=Lib.hid hok;clear hok hq2;refine (HA.out.2.2.1 _ hF02 HO.out).mono ?_;rintro e w3 ⟨v3,rfl,hE3,hF3⟩;have hF03:=hF02.trans hF3 (by simp);have hT3:=hF3.blk hT2 (by simp);have tc3:=hT3.cells;clear tc2 hF3 hT2
      | go_at_call 7;(with_reducible refine (HA.out.2.2.2.1 _ _ hE3 HO.out).mono ?_);rintro e w4 ⟨⟨b4,rfl,hq4⟩,hF4⟩;have hF04:=hF03.trans hF4 (by simp);have hT4:=hF4.blk hT3 (by simp);have tc4:=hT4.cells;have hE4:=hE3.fr hF4 (by simp);clear tc3 hF4 hT3 hE3
      | go_at_call 8;have hon : OnceK k c.ents:=hq4 (by simpa using (show (!b4) = false by assumption));have HN:=Lib.hid hon;clear hon hq4;refine (HA.out.2.2.2.2.1 _ hF04 HO.out).mono ?_;rintro e w5 ⟨rfl,hF5⟩;have hF05:=hF04.trans hF5 (by simp);have hT5:=hF5.blk hT4 (by simp);have tc5:=hT5.cells;have hE5:=hE4.fr hF5 (by simp);clear tc4 hF5 hT4 hE4;obtain ⟨wx,wz,wy,wo,hz51,hz51',hz11⟩:=HB.out.2.2.2.2.2.2.1 HO.out
      | go_at_call 10;(with_reducible refine (HA.out.2.2.2.2.2.1 _ HO.out).mono ?_);rintro e w6 ⟨rfl,hF6⟩;have hF06:=hF05.trans hF6 (by simp);have hT6:=hF6.blk hT5 (by simp);have tc6:=hT6.cells;have hE6:=hE5.fr hF6 (by simp);clear tc5 hF6 hT5 hE5
      | go_at_call 9;(with_reducible refine (HA.out.2.2.2.2.2.2 _ HO.out).mono ?_);rintro e w7 ⟨rfl,hF7⟩;have hF07:=hF06.trans hF7 (by simp);have hT7:=hF7.blk hT6 (by simp);have tc7:=hT7.cells;have hE7:=hE6.fr hF7 (by simp);clear tc6 hF7 hT6 hE6
      | (with_reducible refine list_store 33 (fun K hK=>?_);  refine storeRow _ _ _ rfl w7.heap.size [.int .u64 0,.int .u64 0,.int .u64 cd,.int .u64 xs.length,.int .u64 off] rfl rfl _ _ (Blk.newAt rfl) (by kernel_rfl) rfl rfl (fun w8 hH8 hF8=>?_);have hF78 : Fr [] w7 w8:=Fr.trans (S:=[]) (by exact frP) hF8 (by simp);have hF08:=hF07.trans hF78 (by simp);have hT8:=hF78.blk hT7 (by simp);have tc8:=hT8.cells;have hE8:=hE7.fr hF78 (by simp);have hc8:=hH8.cells;clear tc7 hF8 hF78 hT7 hE7)
      | go_at_call 11;refine (HB.out.1 _ hF08 HO.out).mono ?_;rintro e w9 ⟨rfl,hF9⟩;have hF09:=hF08.trans hF9 (by simp);have hH9:=hF9.blk hH8 (by simp);have hc9:=hH9.cells;have hE9:=hE8.fr hF9 (by simp);clear tc8 hF9 hT8 hE8 hc8 hH8
      | go_at_call 12;(with_reducible refine (HB.out.2.1 _ hF09 HO.out HN.out).mono ?_);rintro e wa ⟨rfl,hFa⟩;have hF0a:=hF09.trans hFa (by simp);have hHa:=hFa.blk hH9 (by simp);have hca:=hHa.cells;have hEa:=hE9.fr hFa (by simp);clear hFa hE9 hc9 hH9
      | go_at_call 13;(with_reducible refine (HB.out.2.2.1 _ _ hEa HO.out HN.out).mono ?_);rintro e wb ⟨rfl,hFb⟩;have hF0b:=hF0a.trans hFb (by simp);have hHb:=hFb.blk hHa (by simp);have hcb:=hHb.cells;clear hFb hEa hca hHa
      | go_at_call 14;refine (HB.out.2.2.2.1 _ HO.out).mono ?_;rintro e wc ⟨rfl,hFc⟩;have hF0c : Fr [] w wc:=(Fr.drew hF0b).trans hFc (by simp);clear hFc hHb hcb
      | go_at_call 15;rw [HB.out.2.2.2.2.2.2.2];(with_reducible refine (HB.out.2.2.2.2.1 _ hF0c HO.out).mono ?_);rintro e wd ⟨rfl,hFd⟩;have hF0d:=hF0c.trans hFd (by simp);clear hFd
      | go_at_call 16;(with_reducible refine (HB.out.2.2.2.2.2.1 _ hF0d HO.out).mono ?_);rintro e we ⟨rfl,hFe⟩;have hF0e:=hF0d.trans hFe (by simp);clear hFe
      | (refine wre 15 oRoLaw0 ?_)
      | (with_reducible refine wEI ?_;(first|(refine wEN ?_;skip)|(refine wEF rfl (fun K hK=>?_);go_simp)|(refine wEL rfl rfl (fun K hK=>?_);go_simp)|(refine wER rfl (fun K hK=>?_);go_simp)|(refine wEM rfl (fun K hK=>?_);go_simp;try refine ⟨_,_,⟨rfl,rfl⟩,?_⟩)|(refine wpE_growp rfl rfl (fun K hK=>?_);simp only [List.getElem_toArray,List.getElem_cons_succ,List.getElem_cons_zero];(first|(with_reducible refine op_store 33 ?_;  refine storeRow _ _ _ rfl w7.heap.size [.int .u64 0,.int .u64 0,.int .u64 cd,.int .u64 xs.length,.int .u64 off] rfl rfl _ _ (Blk.newAt rfl) (by kernel_rfl) rfl rfl (fun w8 hH8 hF8=>?_);have hF78 : Fr [] w7 w8:=Fr.trans (S:=[]) (by exact frP) hF8 (by simp);have hF08:=hF07.trans hF78 (by simp);have hT8:=hF78.blk hT7 (by simp);have tc8:=hT8.cells;have hE8:=hE7.fr hF78 (by simp);have hc8:=hH8.cells;clear tc7 hF8 hF78 hT7 hE7)))|(refine wEG rfl (fun K hK=>?_);go_simp)|(refine wpE_actp rfl rfl (fun K hK=>?_);simp only [List.getElem_toArray,List.getElem_cons_succ,List.getElem_cons_zero];(first|(with_reducible refine op_store 33 ?_;  refine storeRow _ _ _ rfl w7.heap.size [.int .u64 0,.int .u64 0,.int .u64 cd,.int .u64 xs.length,.int .u64 off] rfl rfl _ _ (Blk.newAt rfl) (by kernel_rfl) rfl rfl (fun w8 hH8 hF8=>?_);have hF78 : Fr [] w7 w8:=Fr.trans (S:=[]) (by exact frP) hF8 (by simp);have hF08:=hF07.trans hF78 (by simp);have hT8:=hF78.blk hT7 (by simp);have tc8:=hT8.cells;have hE8:=hE7.fr hF78 (by simp);have hc8:=hH8.cells;clear tc7 hF8 hF78 hT7 hE7)))|(refine wEA rfl (fun K hK=>?_);go_simp))))
    · go_ret
      exact ⟨rfl,hF01⟩
    · go_ret
      exact ⟨rfl,hF02⟩
    · go_ret
      exact ⟨rfl,hF02⟩
    · go_ret
      exact ⟨rfl,hF04⟩
    · have:=HZ.out HO.out;omega
    · have:=HZ.out HO.out;omega
    · go_ret
      exact ⟨rfl,hF0e⟩
theorem raLaw {ea aa : Addr} {w : World} {ra ba : Option Addr} {rc bc k d i : Nat} {c : CarM} (h : CarAt w ra ba c) (hG : Gl ea w) (hA : w.cell? ⟨0,0,none⟩ = some (.iface 223 (.pointer (some aa)))) (hd : d ≤ 255) (hi : i ≤ 255) :
    Calls Tryz.prog 3 #[carA ra ba rc bc c,.int .u64 k,.int .u8 d,.int .u8 i] w fun e w'=>e = .returned (.bool true) ∧ Fr [] w w':=by
  by_cases hx : c.blocks.length = 0 ∨ (k ≠ 1024 ∧ k ≠ 1025)
  · exact raOther h hx
  · exact raMain h hG hA (fun e=>hx (.inl (by rw [e];rfl))) (by omega) hd hi
end Go.Proofs.Wx
