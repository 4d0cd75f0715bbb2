import Derived.Test.YtdokbceiganhdaaGreatDoorM14
import Derived.Test.YtdokbceiganhdaaGreatDoorM15
import Derived.Test.YtdokbceiganhdaaGreatDoorM35
import Derived.Test.YtdokbceiganhdaaGreatDoorM37
import Derived.Test.YtdokbceiganhdaaGreatDoorM38
import Derived.Test.YtdokbceiganhdaaGreatDoorM39
set_option maxRecDepth 100000
set_option maxHeartbeats 1000000
set_option linter.unusedVariables false
set_option linter.unusedSimpArgs false
set_option linter.deprecated false
set_option linter.all false
set_option linter.unusedSectionVars false
namespace Go.Proofs.Wx
open Go Go.RowKit
set_option maxRecDepth 1000000 in
set_option maxHeartbeats 12800000 in
theorem generateK {ea : Addr} {w : World} {r sb k B b c0 cap X z : Nat} {c : CarM} {xs rest rest2 tail : List UInt8} (hk2 : k = 1024 ∨ k = 1025) (h : Rdr w r sb xs 0) (hok : c.Ok) (hne : c.blocks ≠ []) (hon : OnceK k c.ents) (hG : Gl ea w) (hO : OptsC w B b c0 k)
    (hx0 : xs = pragmaB ++ rest) (hx1 : xs.drop 11 = hdrB 0 0 X c.bytes.length z ++ rest2) (hx2 : xs.drop X = c.bytes ++ tail) (hX : 51 ≤ X) (hX2 : X ≤ 1000) (hz : z < 1000000000) (hLen : LenC) :
    Calls Tryz.prog 32 #[.iface 74 (.pointer (some ⟨r,0,none⟩)),.slice (some ⟨B,0,none⟩) 9 cap] w fun e w'=>∃ iv,e = .returned (.tuple #[iv,.nilIface]) ∧ IdxAt k w' iv (Rg w.heap.size w'.heap.size) c.ents ∧ Fr [r] w w':=by
  have hlt:=h.lt
  have hk0 : 0 < k:=by omega
  have hao:=applyOptionsK (cap:=cap) hk0 hO
  have hnw:=indexNewK hk2
  obtain ⟨he1,he2⟩:=hok.ents
  have hld:=fun (w3 : World) (iv : Value) (ix bm : Nat) (hR3 : Rdr w3 r sb xs 0) (hO3 : OptsC w3 B b c0 k) (hG3 : Gl ea w3) (h0 : Idx0 k w3 iv ix bm) (hne2 : ix ≠ bm) (h1 : w.heap.size ≤ ix) (h2 : w.heap.size ≤ bm) (hb : bm < w3.heap.size) (h3 : w.heap.size ≤ w3.heap.size) =>
    loadIndex2 (ix:=ix) (k0:=k) (T:=idxT k) (fL:=loadF k) (ov:=.slice (some ⟨B,0,none⟩) 9 cap) hR3 hok hne hG3 hx0 hx1 hx2 hX hX2 hz (fun w' hF=>applyOptionsK hk0 (hO3.fr hF (by simp) (by simp) (by simp))) (loadF_ahead hk2) (loadF_meth hk2) (loadF_enter hk2)
      (R:=fun w''=>IdxAt k w'' iv (Rg w.heap.size w''.heap.size) c.ents ∧ Fr [r,bm] w3 w'') (fun v w' hOw hF hR=>(loadK (h0.fr hF (by simp;omega) (by simp;omega)) hne2 hOw hb he1 he2 hon hLen).mono fun e w'' ⟨e1,e2,e3⟩ =>
        ⟨e1,e2.mono (fun b hb h=>⟨by rcases h with h|h;simp at h;omega;have:=h.1;have:=hF.size;omega,hb⟩),(hF.mono (by simp)).trans e3 (by simp)⟩)
  have H:=Lib.hid (And.intro h (And.intro hO (And.intro hG hok)))
  clear h hO hG hok hne hon hx0 hx1 hx2 hX hX2 hz he1 he2
  go_enter Tryz.func32,Tryz.ntmps32
  go_wp2_with (first
    | go_at_call 49;refine hao.mono ?_;rintro e w1 ⟨rfl,hF1⟩;clear hao;have hs1:=hF1.size
    | go_at_call 50;refine (hnw _).mono ?_;rintro e w3 ⟨iv,ix,bm,rfl,hI3,hi1,hi2,hi3,hi4,hi5,hF3⟩;clear hnw;have hF03 : Fr [] w w3:=(Fr.trans (S:=[]) hF1 (Fr.trans (S:=[]) (by exact frP) hF3 (by simp)) (by simp));simp only [World.size_alloc] at hi1 hi2;have hivE:=hI3.iface;have hs3:=hF03.size;have hl3:=hld w3 iv ix bm (H.out.1.fr hF03 (by simp) (by simp)) (H.out.2.1.fr hF03 (by simp) (by simp) (by simp)) (H.out.2.2.1.fr hF03 (by simp)) hI3 hi3 (by omega) (by omega) hi5 hs3;clear hld hI3;subst hivE
    | go_at_call 51;refine hl3.mono ?_;rintro e w4 ⟨rfl,hI4,hF4⟩;clear hl3)
  go_ret2
  exact ⟨_,rfl,hI4,(hF03.mono (by simp)).trans hF4 (by simp;omega)⟩
set_option maxRecDepth 1000000 in
set_option maxHeartbeats 12800000 in
theorem writtenK {w : World} {k : Nat} {D : Nat → Prop} {l : List Itm} {iv : Value} (hI : IdxAt k w iv D l) (hl : l.length ≤ 50) (hd : ∀ e ∈ l,e.1.dig.length ≤ 200) (hc : ∀ e ∈ l,e.1.code < 9223372036854775808) (hhi : ∀ b,D b → b < w.heap.size) (hLen : LenC) :
    Calls Tryz.prog 35 #[iv,.nilIface] w fun e w'=>e = .returned (.tuple #[.string ⟨(Lib.uvarint k ++ bodyB k l).toArray⟩,.bool true]) ∧ Fr [] w w':=by
  obtain ⟨ys,hys⟩ : ∃ ys,Hid (ys = Lib.uvarint k ++ bodyB k l):=⟨_,rfl⟩
  have hwr:=fun (w1 : World) (p : Nat) (hF : Fr [] w w1) (hp : w.heap.size ≤ p) (hP : Blk w1 p [.slice none 0 0,.int .i64 0,.int .i8 0] 83 (0,0))=>idxWriteS (bufSnk p (p + 1)) (v:=.slice none 0 0) (ys:=[]) ⟨⟨⟨0,hP⟩,⟨by simp [by8],.inl ⟨rfl,rfl⟩⟩,by omega,by simp⟩,fun _=>rfl⟩ (hI.fr hF (by simp)) hl hd hc (by simp) (by have:=hP.lt;omega) (by simp;exact fun hm=>by have:=hhi _ hm;omega) (by simp [Value.ownBlock]) (fun b hb=>Nat.lt_of_lt_of_le (hhi b hb) hF.size) hLen
  simp only [List.nil_append,← hys.out] at hwr
  rw [← hys.out]
  clear hI hl hd hc
  go_enter Tryz.func35,Tryz.ntmps35
  go_wp2_with (first
    | go_at_call 64;refine (hwr _ w.heap.size (by exact frP) (Nat.le_refl _) (Blk.newAt rfl)).mono ?_;rintro e w2 ⟨⟨N,rfl⟩,v2,hW2⟩
    | go_at_call 38;refine (bufString (hW2.buf.1.fr (S:=[]) (by exact frP) (by simp) (by simp))).mono ?_;rintro e w6 ⟨rfl,hF6⟩)
  go_ret2
  refine ⟨rfl,Fr.trans (S:=[]) (S':=[]) (Fr.trans (S:=[]) (S':=[w.heap.size] ++ (Value.slice none 0 0).ownBlock.toList) (by exact frP) hW2.fr (by simp [Value.ownBlock])) hF6 (by simp)⟩
set_option maxRecDepth 1000000 in
set_option maxHeartbeats 12800000 in
theorem ixMakeK {ea : Addr} {w : World} {k X z : Nat} {c : CarM} {xs rest rest2 tail : List UInt8} (hk2 : k = 1024 ∨ k = 1025) (hok : c.Ok) (hne : c.blocks ≠ []) (hon : OnceK k c.ents) (hG : Gl ea w)
    (hx0 : xs = pragmaB ++ rest) (hx1 : xs.drop 11 = hdrB 0 0 X c.bytes.length z ++ rest2) (hx2 : xs.drop X = c.bytes ++ tail) (hX : 51 ≤ X) (hX2 : X ≤ 1000) (hz : z < 1000000000) (hxl : xs.length ≤ 100000000) (hLen : LenC) :
    Calls Tryz.prog 12 #[.string ⟨xs.toArray⟩,codecOpts k] w fun e w'=>e = .returned (.tuple #[.string ⟨(Lib.uvarint k ++ bodyB k c.ents).toArray⟩,.bool true]) ∧ Fr [] w w':=by
  have hgs:=hG.size
  have ho0:=fun w=>optionsK (w:=w) (k:=k) (by omega)
  have hnr:=fun (w' : World) (sb sc : Nat) (hS : Bs w' sb 0 xs) (h1 : xs.length ≤ sc) (h2 : sc ≤ 9223372036854775807) (h3 : 28 ≤ w'.heap.size)=>newReader hS h1 ⟨by omega,h2⟩ h3
  obtain ⟨he1,he2⟩:=hok.ents
  have hgen:=fun (w' : World) (r sb B b c0 cap : Nat) (h : Rdr w' r sb xs 0) (hG : Gl ea w') (hO : OptsC w' B b c0 k)=>generateK (cap:=cap) hk2 h hok hne hon hG hO hx0 hx1 hx2 hX hX2 hz hLen
  have hwri:=fun (w' : World) (iv : Value) (D : Nat → Prop) (hI : IdxAt k w' iv D c.ents) (hhi : ∀ b,D b → b < w'.heap.size)=>writtenK hI he2 (fun e he=>(he1 e he).1.len) (fun e he=>(he1 e he).1.code_lt) hhi hLen
  obtain ⟨ys,hys⟩ : ∃ ys,Hid (ys = Lib.uvarint k ++ bodyB k c.ents):=⟨_,rfl⟩
  simp only [← hys.out] at hwri
  rw [← hys.out]
  have HX:=Lib.hid (And.intro hgen hwri)
  clear hok hne hon hx0 hx1 hx2 hX hX2 hz he1 he2 hgen hwri
  have hdr : ∀ w : World,w.drew.heap = w.heap:=fun _=>rfl
  go_enter Tryz.func12,Tryz.ntmps12
  go_wp2_with (first
    | ((with_reducible refine list_convert (fun K hK=>?_));  refine strB _ rfl xs rfl (by omega) (fun w2 C hC1 hC2 hB2 hF2=>?_);refine hK _ _ (Fr.ext hF2) ?_;simp only [hdr,World.size_alloc] at hB2;have hFw2 : Fr [] w w2:=Fr.trans (S:=[]) (by exact frP) hF2 (by simp);have hG2:=hG.fr hFw2 (by simp);clear hF2;have hP2l:=hB2.lt)
    | go_at_call 33;(with_reducible refine (hnr _ _ _ hB2 hC1 hC2 hG2.size).mono ?_);rintro e w3 ⟨rfl,hR3,hF3⟩;(try go_simp);refine hK _ _ (Fr.ext hF3) ?_;have h3l:=hR3.lt
    | go_at_call 34;refine (ho0 _).mono ?_;rintro e w4 ⟨B,b,c0,cap,rfl,hO4,hb1,hb2,hb3,hF4⟩;(try go_simp);refine hK _ _ (Fr.ext hF4) ?_;have hF34 : Fr [] w2 w4:=(hF3.trans (Fr.trans (S:=[]) (by exact frP) hF4 (by simp)) (by simp));have h4s:=hF34.size;have hR4:=hR3.fr (S:=[]) (Fr.trans (S:=[]) (by exact frP) hF4 (by simp)) (by simp) (by simp)
    | go_at_call 32;refine (HX.out.1 _ _ _ _ _ _ cap hR4 (hG2.fr hF34 (by simp)) hO4).mono ?_;rintro e w5 ⟨iv,rfl,hI5,hF5⟩
    | go_at_call 35;refine (HX.out.2 _ iv _ hI5 (fun b hb=>hb.2)).mono ?_;rintro e w6 ⟨rfl,hF6⟩
    | (refine wre 1 [(0,.free),(4,.look),(1,.grow),(2,.grow),(3,.free),(5,.grow),(6,.act),(7,.free),(8,.free),(9,.free),(10,.free),(11,.free)] ?_)
    | (with_reducible refine wEI ?_;(first|(refine wEN ?_;skip)|(refine wEF rfl (fun K hK=>?_);go_simp)|(refine wEL rfl rfl (fun K hK=>?_);go_simp)|(refine wER rfl (fun K hK=>?_);go_simp)|(refine wEM rfl (fun K hK=>?_);go_simp;try refine ⟨_,_,⟨rfl,rfl⟩,?_⟩)|(refine wpE_growp rfl rfl (fun K hK=>?_);simp only [List.getElem_toArray,List.getElem_cons_succ,List.getElem_cons_zero];(first|((with_reducible refine op_convert ?_);  refine strB _ rfl xs rfl (by omega) (fun w2 C hC1 hC2 hB2 hF2=>?_);refine hK _ _ (Fr.ext hF2) ?_;simp only [hdr,World.size_alloc] at hB2;have hFw2 : Fr [] w w2:=Fr.trans (S:=[]) (by exact frP) hF2 (by simp);have hG2:=hG.fr hFw2 (by simp);clear hF2;have hP2l:=hB2.lt)))|(refine wEG rfl (fun K hK=>?_);go_simp)|(refine wpE_actp rfl rfl (fun K hK=>?_);simp only [List.getElem_toArray,List.getElem_cons_succ,List.getElem_cons_zero];(first|((with_reducible refine op_convert ?_);  refine strB _ rfl xs rfl (by omega) (fun w2 C hC1 hC2 hB2 hF2=>?_);refine hK _ _ (Fr.ext hF2) ?_;simp only [hdr,World.size_alloc] at hB2;have hFw2 : Fr [] w w2:=Fr.trans (S:=[]) (by exact frP) hF2 (by simp);have hG2:=hG.fr hFw2 (by simp);clear hF2;have hP2l:=hB2.lt)))|(refine wEA rfl (fun K hK=>?_);go_simp))))
  go_ret2
  refine ⟨rfl,((hFw2.trans hF34 (by simp)).trans hF5 (by simp;omega)).trans hF6 (by simp)⟩
end Go.Proofs.Wx

namespace Go.Proofs.Wx
open Go Go.RowKit
theorem orsSkr {o r sb base : Nat} {fs : List UInt8} (hor : o ≠ r) (hos : o ≠ sb) (hfs : fs.length < 1000000000) (hb : base ≤ fs.length) : Skr tOR ⟨o,0,none⟩ [o] (fs.drop base) (OrsI o r sb base fs) 399 where
  brs w:=orsToByteReadSeeker _ w
  ahead _:=by kernel_rfl
  meth _:=by kernel_rfl
  enter _ _ _:=by kernel_rfl
  call w i h hi:=orsSeek0 hor hos h (by simp at hi;omega)
theorem indexReader {w : World} {r sb cr j x y z : Nat} {tl : List Value} {fs : List UInt8} (hR : Rdr w r sb fs j) (hC : Blk w cr (.int .u64 0 :: .int .u64 0 :: .int .u64 x :: .int .u64 y :: .int .u64 z :: .int .u64 2 :: RDI r :: tl) tRD (0,0)) (hz0 : 0 < z) (hz9 : z < 1000000000) :
    Calls Tryz.prog 73 #[.pointer (some ⟨cr,0,none⟩)] w fun e w'=>∃ o,e = .returned (.tuple #[.iface tOR (.pointer (some ⟨o,0,none⟩)),.nilIface]) ∧ w.heap.size ≤ o ∧ OrsI o r sb z fs w' 0 ∧ Fr [] w w':=by
  have hi:=fun w=>hasIndex (w:=w) (a:=0) (b:=0) (c:=x) (d:=y) hz0
  have hno:=fun (w1 : World) (hF : Fr [] w w1)=>newOrs (off:=z) (hR.fr hF (by simp) (by simp))
  have hc:=hC.cells
  have wz : IntKind.i64.wrap (z : Int) = z:=by simp [IntKind.wrap,IntKind.bits,IntKind.signed];omega
  go_enter Tryz.func73,Tryz.ntmps73
  go_wp2_with (first
    | go_at_call 72;refine (hi _).mono ?_;rintro e w1 ⟨rfl,hF1⟩;have hC1:=hF1.blk hC (by simp);have hc1:=hC1.cells
    | go_at_call 110;refine (hno _ (Fr.drew hF1)).mono ?_;rintro e w3 ⟨o,rfl,ho,hI3,hF3⟩
    | (refine wre 3 [(0,.free),(1,.free),(2,.free),(3,.look),(4,.free),(5,.free),(6,.free),(7,.free),(8,.look),(9,.free),(10,.act),(11,.free),(12,.free),(13,.free),(14,.free)] ?_)
    | (with_reducible refine wEI ?_;(first|(refine wEN ?_;skip)|(refine wEF rfl (fun K hK=>?_);go_simp)|(refine wEL rfl rfl (fun K hK=>?_);go_simp)|(refine wER rfl (fun K hK=>?_);go_simp)|(refine wEM rfl (fun K hK=>?_);go_simp;try refine ⟨_,_,⟨rfl,rfl⟩,?_⟩)|(refine wEG rfl (fun K hK=>?_);go_simp)|(refine wEA rfl (fun K hK=>?_);go_simp))))
  go_ret2
  exact ⟨o,rfl,Nat.le_trans hF1.size ho,hI3,(Fr.drew hF1).trans hF3 (by simp)⟩
set_option maxRecDepth 1000000 in
set_option maxHeartbeats 12800000 in
theorem readOrGen {ea : Addr} {w : World} {r sb B b k x y z : Nat} {fs rest rest2 rest3 : List UInt8} {l : List Itm} (hk2 : k = 1024 ∨ k = 1025) (h : Rdr w r sb fs 0) (hO : OptsAt w B b) (hBr : B ≠ r) (hbr : r < b ∨ b + 8 ≤ r) (hG : Gl ea w) (hx0 : fs = pragmaB ++ rest) (hx1 : fs.drop 11 = hdrB 0 0 x y z ++ rest2) (hx3 : fs.drop z = Lib.uvarint k ++ (bodyB k l ++ rest3))
    (hfs : fs.length ≤ 100000000) (hzl : z ≤ fs.length) (h51 : 51 ≤ x) (hx9 : x < 1000000000) (hy0 : 0 < y) (hy9 : y < 1000000000) (hz0 : 0 < z) (hl : l.length ≤ 50) (hd : ∀ e ∈ l,e.1.dig.length ≤ 200) (hc : ∀ e ∈ l,e.1.code < 9223372036854775808) :
    Calls Tryz.prog 39 #[RDI r,.slice (some ⟨B,0,none⟩) 8 8] w fun e w'=>∃ iv,e = .returned (.tuple #[iv,.nilIface]) ∧ IdxAt k w' iv (Rg w.heap.size w'.heap.size) l ∧ Fr [r] w w':=by
  have hlt:=h.lt
  have hge:=h.ge
  have hrv:=readVersion2 h hO hx0 hG
  have hsk : ∀ w1,Rdr w1 r sb fs 11 → Calls Tryz.prog 256 #[.pointer (some ⟨r,0,none⟩),.int .i64 0,.int .i64 0] w1 fun e w'=>e = .returned (.tuple #[.int .i64 0,.nilIface]) ∧ Rdr w' r sb fs 0 ∧ Fr [r] w1 w':=fun w1 hR=>seek_any hR 0 0 0 (by omega) (.inl ⟨rfl,rfl⟩)
  have hnr:=fun (w1 : World) (hR : Rdr w1 r sb fs 0) (hO1 : OptsAt w1 B b) (hG1 : Gl ea w1)=>newReaderK hR hO1 hx0 hx1 hG1 (by omega) h51 hx9 hy0 hy9 (by omega)
  have hhi:=fun w=>hasIndex (w:=w) (a:=0) (b:=0) (c:=x) (d:=y) hz0
  have hir:=fun (w1 : World) (cr j : Nat) (tl : List Value) (hR : Rdr w1 r sb fs j) hC=>indexReader (cr:=cr) (tl:=tl) (x:=x) (y:=y) hR hC hz0 (by omega)
  have hrf:=fun (w1 : World) (o : Nat) (hor : o ≠ r) (hos : o ≠ sb) (hI : OrsI o r sb z fs w1 0)=>readFromS (orsSrc (base:=z) hor hos (by omega)) (orsBSrc (base:=z) hor hos (by omega)) (orsToByteReader _) (orsSkr hor hos (by omega) hzl) hk2 hI (by simpa using hx3) (by simp;omega) hl hd hc
  have HQ:=Lib.hid (And.intro hO (And.intro hG h))
  clear hx0 hx1 hx3 hfs hzl h51 hx9 hy0 hy9 hz0 hl hd hc hO hG h
  go_enter Tryz.func39,Tryz.ntmps39
  go_wp2_with (first
    | go_at_call 69;refine hrv.mono ?_;rintro e w1 ⟨rfl,hR1,hF1⟩;clear hrv
    | go_at_call 256;(with_reducible refine (hsk _ hR1).mono ?_);rintro e w2 ⟨rfl,hR2,hF2⟩;clear hsk hR1;have hF02:=hF1.trans hF2 (by simp);clear hF1 hF2
    | go_at_call 71;refine (toReaderAt _ _).mono ?_;rintro e w3 ⟨rfl,rfl⟩
    | go_at_call 70;(with_reducible refine (hnr _ hR2 (HQ.out.1.fr hF02 (by simp;exact hBr) (by simp;exact hbr)) (HQ.out.2.1.fr hF02 (by simp;exact hge))).mono ?_);rintro e w3 ⟨cr,tl,rfl,hcr,hC3,⟨j3,hR3⟩,hF3⟩;have hF03:=hF02.trans hF3 (by simp);clear hF02 hF3 hnr hR2;have hc3:=hC3.cells
    | go_at_call 72;refine (hhi _).mono ?_;rintro e w4 ⟨rfl,hF4⟩;have hC4:=hF4.blk hC3 (by simp);have hR4:=hR3.fr hF4 (by simp) (by simp);have hF04:=hF03.trans hF4 (by simp);clear hF4 hF03 hC3 hR3 hc3;have hc4:=hC4.cells
    | go_at_call 73;(with_reducible refine (hir _ cr j3 tl hR4 hC4).mono ?_);rintro e w5 ⟨o,rfl,ho,hI5,hF5⟩;have h4s:=hF04.size;have hF05:=hF04.trans hF5 (by simp);clear hF5 hF04 hC4 hR4 hc4
    | go_at_call 74;(with_reducible refine (hrf _ o (by omega) (by omega) hI5).mono ?_);rintro e w6 ⟨iv,rfl,hI6,hF6⟩)
  go_ret2
  have h5s:=hF05.size
  exact ⟨iv,rfl,hI6.mono (fun b hb h=>⟨by have:=h.1;omega,hb⟩),hF05.trans hF6 (by simp;omega)⟩
set_option maxRecDepth 1000000 in
set_option maxHeartbeats 12800000 in
theorem ixOwnK {ea : Addr} {w : World} {k x y z : Nat} {fs rest rest2 rest3 : List UInt8} {l : List Itm} (hk2 : k = 1024 ∨ k = 1025) (hG : Gl ea w) (hx0 : fs = pragmaB ++ rest) (hx1 : fs.drop 11 = hdrB 0 0 x y z ++ rest2) (hx3 : fs.drop z = Lib.uvarint k ++ (bodyB k l ++ rest3))
    (hfs : fs.length ≤ 100000000) (hzl : z ≤ fs.length) (h51 : 51 ≤ x) (hx9 : x < 1000000000) (hy0 : 0 < y) (hy9 : y < 1000000000) (hz0 : 0 < z) (hl : l.length ≤ 50) (hd : ∀ e ∈ l,e.1.dig.length ≤ 200) (hc : ∀ e ∈ l,e.1.code < 9223372036854775808) (hLen : LenC) :
    Calls Tryz.prog 15 #[.string ⟨fs.toArray⟩,zeroOpts] w fun e w'=>e = .returned (.tuple #[.string ⟨(Lib.uvarint k ++ bodyB k l).toArray⟩,.bool true]) ∧ Fr [] w w':=by
  have hgs:=hG.size
  have ho0:=fun w=>options0 (w:=w)
  have hnr:=fun (w' : World) (sb sc : Nat) (hS : Bs w' sb 0 fs) (h1 : fs.length ≤ sc) (h2 : sc ≤ 9223372036854775807) (h3 : 28 ≤ w'.heap.size)=>newReader hS h1 ⟨by omega,h2⟩ h3
  have hgen:=fun (w' : World) (r sb B b : Nat) (h : Rdr w' r sb fs 0) (hG : Gl ea w') (hO : OptsAt w' B b) (h1 : B ≠ r) (h2 : r < b ∨ b + 8 ≤ r)=>readOrGen hk2 h hO h1 h2 hG hx0 hx1 hx3 hfs hzl h51 hx9 hy0 hy9 hz0 hl hd hc
  have hwri:=fun (w' : World) (iv : Value) (D : Nat → Prop) (hI : IdxAt k w' iv D l) (hhi : ∀ b,D b → b < w'.heap.size)=>writtenK hI hl hd hc hhi hLen
  obtain ⟨ys,hys⟩ : ∃ ys,Hid (ys = Lib.uvarint k ++ bodyB k l):=⟨_,rfl⟩
  simp only [← hys.out] at hwri
  rw [← hys.out]
  have HX:=Lib.hid (And.intro hgen hwri)
  clear hx0 hx1 hx3 hzl h51 hx9 hy0 hy9 hz0 hl hd hc hgen hwri
  have hdr : ∀ w : World,w.drew.heap = w.heap:=fun _=>rfl
  go_enter Tryz.func15,Tryz.ntmps15
  go_wp2_with (first
    | ((with_reducible refine list_convert (fun K hK=>?_));  refine strB _ rfl fs rfl (by omega) (fun w2 C hC1 hC2 hB2 hF2=>?_);refine hK _ _ (Fr.ext hF2) ?_;simp only [hdr,World.size_alloc] at hB2;have hFw2 : Fr [] w w2:=Fr.trans (S:=[]) (by exact frP) hF2 (by simp);have hG2:=hG.fr hFw2 (by simp);clear hF2;have hP2l:=hB2.lt)
    | go_at_call 33;(with_reducible refine (hnr _ _ _ hB2 hC1 hC2 hG2.size).mono ?_);rintro e w3 ⟨rfl,hR3,hF3⟩;(try go_simp);refine hK _ _ (Fr.ext hF3) ?_;have h3l:=hR3.lt
    | go_at_call 34;refine (ho0 _).mono ?_;rintro e w4 ⟨B,b,rfl,hO4,hb1,hb2,hF4⟩;(try go_simp);refine hK _ _ (Fr.ext hF4) ?_;have hF34 : Fr [] w2 w4:=(hF3.trans (Fr.trans (S:=[]) (by exact frP) hF4 (by simp)) (by simp));have h4s:=hF34.size;have hR4:=hR3.fr (S:=[]) (Fr.trans (S:=[]) (by exact frP) hF4 (by simp)) (by simp) (by simp)
    | go_at_call 39;(with_reducible refine (HX.out.1 _ _ _ _ _ hR4 (hG2.fr hF34 (by simp)) hO4 (by omega) (by omega)).mono ?_);rintro e w5 ⟨iv,rfl,hI5,hF5⟩
    | go_at_call 35;have hi5 : ∀ b,Rg w4.heap.size w5.heap.size b → b < w5.heap.size:=(fun b hb=>hb.2);(with_reducible refine (HX.out.2 _ iv _ hI5 hi5).mono ?_);rintro e w6 ⟨rfl,hF6⟩
    | (refine wre 1 [(0,.free),(4,.look),(1,.grow),(2,.grow),(3,.free),(5,.grow),(6,.act),(7,.free),(8,.free),(9,.free),(10,.free),(11,.free)] ?_)
    | (with_reducible refine wEI ?_;(first|(refine wEN ?_;skip)|(refine wEF rfl (fun K hK=>?_);go_simp)|(refine wEL rfl rfl (fun K hK=>?_);go_simp)|(refine wER rfl (fun K hK=>?_);go_simp)|(refine wEM rfl (fun K hK=>?_);go_simp;try refine ⟨_,_,⟨rfl,rfl⟩,?_⟩)|(refine wpE_growp rfl rfl (fun K hK=>?_);simp only [List.getElem_toArray,List.getElem_cons_succ,List.getElem_cons_zero];(first|((with_reducible refine op_convert ?_);  refine strB _ rfl fs rfl (by omega) (fun w2 C hC1 hC2 hB2 hF2=>?_);refine hK _ _ (Fr.ext hF2) ?_;simp only [hdr,World.size_alloc] at hB2;have hFw2 : Fr [] w w2:=Fr.trans (S:=[]) (by exact frP) hF2 (by simp);have hG2:=hG.fr hFw2 (by simp);clear hF2;have hP2l:=hB2.lt)))|(refine wEG rfl (fun K hK=>?_);go_simp)|(refine wpE_actp rfl rfl (fun K hK=>?_);simp only [List.getElem_toArray,List.getElem_cons_succ,List.getElem_cons_zero];(first|((with_reducible refine op_convert ?_);  refine strB _ rfl fs rfl (by omega) (fun w2 C hC1 hC2 hB2 hF2=>?_);refine hK _ _ (Fr.ext hF2) ?_;simp only [hdr,World.size_alloc] at hB2;have hFw2 : Fr [] w w2:=Fr.trans (S:=[]) (by exact frP) hF2 (by simp);have hG2:=hG.fr hFw2 (by simp);clear hF2;have hP2l:=hB2.lt)))|(refine wEA rfl (fun K hK=>?_);go_simp))))
  go_ret2
  refine ⟨rfl,((hFw2.trans hF34 (by simp)).trans hF5 (by simp;omega)).trans hF6 (by simp)⟩
end Go.Proofs.Wx

namespace Go.Proofs.Wx
open Go Go.RowKit
abbrev oHdS0 : List (Nat × Cls):=[(0,.look),(1,.free),(2,.free),(3,.free),(4,.look),(5,.act)]
variable {T : TypeId} {a : Addr} {P : List Nat} {f : Nat} {K : World → Value → List UInt8 → Prop}
theorem traitsWriteS {w : World} {base : Nat} {v : Value} {ys : List UInt8} (hs : Snk T a P base K f) (hBuf : K w v ys) (hlen : ys.length < 9000000) (hbase : base ≤ w.heap.size) :
    Calls Tryz.prog 67 #[.agg #[.int .u64 0,.int .u64 0],.iface T (.pointer (some a))] w fun e w'=>e = .returned (.tuple #[.int .i64 16,.nilIface]) ∧ ∃ v',SW P K w v w' v' (ys ++ traitsB):=by
  have hpb:=hs.lt hBuf
  have hol:=hs.own hBuf
  have L:=Lib.hid hlen
  clear hlen
  have hGP : w.heap.size + 1 ∉ P:=fun h=>by have:=hpb _ h;omega
  have hGv : v.ownBlock ≠ some (w.heap.size + 1):=fun e=>by have:=hol _ e;omega
  have hwr:=fun (w2 : World) (hW : SW P K w v w2 v ys) (hB : Bs w2 (w.heap.size + 1) 0 traitsB)=>hs.wr (c2:=16) (n:=16) hW.buf hB traitsB_length (by omega) hGP hGv (fun _=>by omega) (by have:=L.out;omega) (Nat.le_trans hbase hW.fr.size)
  have hah:=hs.ahead
  have hme:=hs.meth
  have hen:=hs.enter
  obtain ⟨Z,hZ⟩ : ∃ Z : List UInt8,Hid (Z = Lib.leBytes 8 0):=⟨_,rfl⟩
  have lZ : Hid (Z.length = 8):=by show _ = _;rw [hZ.out,lb8]
  go_enter Tryz.func67,Tryz.ntmps67
  go_wp2_with (first
    | ((with_reducible refine list_makeSlice (fun K hK=>?_));  refine makeBk _ _ rfl _ _ _ _ 16 16 (w.heap.size + 1) rfl rfl rfl rfl (by omega) (by omega) (by simp) (fun w1 hg1 hF1=>?_);have hF01 : Fr [] w w1:=Fr.trans (S:=[]) (by exact frP) hF1 (by simp);have hT1:=hF1.blk (b:=w.heap.size) (cs:=[.int .u64 0,.int .u64 0]) (Blk.newAt rfl) (by simp);have tc1:=hT1.cells)
    | go_at_call 68;refine (putZ (A:=[]) (k:=16) (x:=0) hZ (by omega) (Blk.drew (show Blk w1 _ _ _ _ from hg1)) (by omega) rfl (by omega)).mono ?_;rintro e w2 ⟨rfl,hg2,hF2⟩;have hT2:=hF2.blk (b:=w.heap.size) hT1.drew (by simp);have tc2:=hT2.cells;clear tc1;have hW2:=(SW.refl hBuf).step hs (X:=[w.heap.size + 1]) (Fr.trans (S:=[w.heap.size + 1]) (Fr.drew (hF01.mono (by simp))) hF2 (by simp)) (by simp;exact ⟨hGP,hGv⟩);clear hF2 hF1 hg1 hF01 hT1
    | go_at_call 68;refine (putZ (A:=[] ++ Z) (k:=16 - 8) (x:=0) hZ (by omega) (Blk.drew hg2) (by omega) lZ.out.symm (by omega)).mono ?_;rintro e w3 ⟨rfl,hg3,hF3⟩;have hW3:=hW2.step hs (X:=[w.heap.size + 1]) (Fr.trans (S:=[w.heap.size + 1]) (by exact frP) hF3 (by simp)) (by simp;exact ⟨hGP,hGv⟩);have hb3:=Blk.bsAll (xs:=traitsB) hg3 (by simp [traitsB,hZ.out])
    | (with_reducible refine (hwr _ hW3 hb3).mono ?_);rintro e w4 ⟨rfl,v',hW4⟩
    | (refine wre 2 oHdS0 ?_)
    | (refine wre 3 oHdS0 ?_)
    | (with_reducible refine wEI ?_;(first|(refine wEN ?_;skip)|(refine wEF rfl (fun K hK=>?_);go_simp)|(refine wEL rfl rfl (fun K hK=>?_);go_simp)|(refine wER rfl (fun K hK=>?_);go_simp)|(refine wEM rfl (fun K hK=>?_);go_simp;try refine ⟨_,_,⟨rfl,rfl⟩,?_⟩)|(refine wEG rfl (fun K hK=>?_);go_simp)|(refine wpE_actp rfl rfl (fun K hK=>?_);simp only [List.getElem_toArray,List.getElem_cons_succ,List.getElem_cons_zero];(first|((with_reducible refine op_makeSlice ?_);  refine makeBk _ _ rfl _ _ _ _ 16 16 (w.heap.size + 1) rfl rfl rfl rfl (by omega) (by omega) (by simp) (fun w1 hg1 hF1=>?_);have hF01 : Fr [] w w1:=Fr.trans (S:=[]) (by exact frP) hF1 (by simp);have hT1:=hF1.blk (b:=w.heap.size) (cs:=[.int .u64 0,.int .u64 0]) (Blk.newAt rfl) (by simp);have tc1:=hT1.cells)))|(refine wEA rfl (fun K hK=>?_);go_simp))))
  go_ret2
  exact ⟨rfl,v',hW3.trans hW4⟩
set_option maxRecDepth 1000000 in
set_option maxHeartbeats 12800000 in
theorem headerWriteS {w : World} {base x y z : Nat} {v : Value} {ys : List UInt8} (hs : Snk T a P base K f) (hBuf : K w v ys) (hx : x < 1000000000) (hy : y < 1000000000) (hz : z < 1000000000) (hlen : ys.length < 8000000) (hbase : base ≤ w.heap.size) :
    Calls Tryz.prog 37 #[.agg #[.int .u64 0,.int .u64 0,.int .u64 x,.int .u64 y,.int .u64 z],.iface T (.pointer (some a))] w fun e w'=>e = .returned (.tuple #[.int .i64 40,.nilIface]) ∧ ∃ v',SW P K w v w' v' (ys ++ (traitsB ++ (Lib.leBytes 8 x ++ Lib.leBytes 8 y ++ Lib.leBytes 8 z))):=by
  have hpb:=hs.lt hBuf
  have L:=Lib.hid (And.intro hlen (And.intro hbase (And.intro hx (And.intro hy hz))))
  obtain ⟨A,hA⟩ : ∃ Z : List UInt8,Hid (Z = Lib.leBytes 8 x):=⟨_,rfl⟩
  obtain ⟨B,hB⟩ : ∃ Z : List UInt8,Hid (Z = Lib.leBytes 8 y):=⟨_,rfl⟩
  obtain ⟨C,hC⟩ : ∃ Z : List UInt8,Hid (Z = Lib.leBytes 8 z):=⟨_,rfl⟩
  have lA : Hid (A.length = 8):=by show _ = _;rw [hA.out,lb8]
  have lB : Hid (B.length = 8):=by show _ = _;rw [hB.out,lb8]
  have lC : Hid (C.length = 8):=by show _ = _;rw [hC.out,lb8]
  rw [← hA.out,← hB.out,← hC.out]
  obtain ⟨T,hT⟩ : ∃ T,Hid (T = w.heap.size):=⟨_,rfl⟩
  have hTw:=fun (w1 : World) (v1 : Value) (hW : SW P K w v w1 v1 ys)=>traitsWriteS hs hW.buf (by have:=L.out;omega) (by have:=L.out;have:=hW.fr.size;omega)
  have hah:=hs.ahead
  have hme:=hs.meth
  have hen:=hs.enter
  clear hlen hbase hx hy hz
  go_enter Tryz.func37,Tryz.ntmps37
  go_wp2_with (first
    | go_at_call 67;have hW1:=(SW.refl hBuf).same hs (Fr.alloc (o:=.cells #[.int .u64 0,.int .u64 0,.int .u64 x,.int .u64 y,.int .u64 z] 63) Fr.refl);refine (hTw _ _ hW1).mono ?_;rintro e w2 ⟨rfl,v2,hW2⟩;have hX2:=hW2.fr.blk (b:=w.heap.size) (cs:=[.int .u64 0,.int .u64 0,.int .u64 x,.int .u64 y,.int .u64 z]) (Blk.newAt rfl) (by have:=L.out;have h2:=hs.own hBuf w.heap.size;simp;exact ⟨fun hm=>Nat.lt_irrefl _ (hpb _ hm),fun e=>by have:=h2 e;omega⟩);have hW:=hW1.trans hW2;have xc2:=hX2.cells;have hXl:=hX2.lt;have hpl:=hs.lt hW.buf;have hov:=hs.own hW.buf;have hbs:=hW.fr.size;clear hTw hW1 hW2;obtain ⟨G,hG⟩ : ∃ G,G = w2.heap.size:=⟨_,rfl⟩;have hGp : G ∉ P:=(fun hm=>by have:=hpl _ hm;omega);have hGv : v2.ownBlock ≠ some G:=(fun e=>by have:=hov _ e;omega);have hGw : w.heap.size ≠ G:=(by omega);have hGl : w.heap.size ≤ G:=(by omega);have HG:=Lib.hid hG;have HS:=Lib.hid hbs;clear hG hXl hpl hov hbs
    | ((with_reducible refine list_makeSlice (fun K hK=>?_));  refine makeBk _ _ rfl _ _ _ _ 24 24 G rfl rfl rfl rfl (by omega) (by omega) HG.out (fun w3 hg3 hF3=>?_);have hX3:=hF3.blk hX2 (by simp);have xc3:=hX3.cells;have hW3:=hW.same hs hF3;clear xc2 hX2 hF3)
    | go_at_call 68;refine (putZ (A:=[]) (k:=24) (x:=x) hA (by have:=L.out;omega) (Blk.drew (show Blk w3 _ _ _ _ from hg3)) (by omega) rfl (by omega)).mono ?_;rintro e w4 ⟨rfl,hg4,hF4⟩;have hX4:=hF4.blk hX3.drew (by simp [hGw]);have xc4:=hX4.cells;have hW4:=hW3.step hs (X:=[G]) (Fr.trans (S:=[G]) (by exact frP) hF4 (by simp)) (by simp;exact ⟨hGp,hGv,hGl⟩);clear xc3 hX3 hF4 hg3
    | go_at_call 68;refine (putZ (A:=[] ++ A) (k:=24 - 8) (x:=y) hB (by have:=L.out;omega) (Blk.drew hg4) (by omega) lA.out.symm (by omega)).mono ?_;rintro e w5 ⟨rfl,hg5,hF5⟩;have hX5:=hF5.blk hX4.drew (by simp [hGw]);have xc5:=hX5.cells;have hW5:=hW4.step hs (X:=[G]) (Fr.trans (S:=[G]) (by exact frP) hF5 (by simp)) (by simp;exact ⟨hGp,hGv,hGl⟩);clear xc4 hX4 hF5 hg4
    | go_at_call 68;refine (putZ (A:=[] ++ A ++ B) (k:=24 - 8 - 8) (x:=z) hC (by have:=L.out;omega) (Blk.drew hg5) (by omega) (by simp [lA.out,lB.out]) (by omega)).mono ?_;rintro e w6 ⟨rfl,hg6,hF6⟩;have hW6:=hW5.step hs (X:=[G]) (Fr.trans (S:=[G]) (by exact frP) hF6 (by simp)) (by simp;exact ⟨hGp,hGv,hGl⟩);have hb6:=Blk.bsAll (xs:=A ++ B ++ C) hg6 (by simp);clear xc5 hX5 hF6 hg5 hg6
    | (with_reducible refine (hs.wr (c2:=24) (n:=24) hW6.buf hb6 (by simp [lA.out,lB.out,lC.out]) (by omega) hGp hGv (fun _=>by omega) (by simp [traitsB_length];have:=L.out;omega) (by have:=L.out;have:=hW6.fr.size;omega)).mono ?_);rintro e w7 ⟨rfl,v7,hW7⟩
    | (refine wre 5 oHdS0 ?_)
    | (refine wre 6 oHdS0 ?_)
    | (refine wre 7 oHdS0 ?_)
    | (with_reducible refine wEI ?_;(first|(refine wEN ?_;skip)|(refine wEF rfl (fun K hK=>?_);go_simp)|(refine wEL rfl rfl (fun K hK=>?_);go_simp)|(refine wER rfl (fun K hK=>?_);go_simp)|(refine wEM rfl (fun K hK=>?_);go_simp;try refine ⟨_,_,⟨rfl,rfl⟩,?_⟩)|(refine wEG rfl (fun K hK=>?_);go_simp)|(refine wpE_actp rfl rfl (fun K hK=>?_);simp only [List.getElem_toArray,List.getElem_cons_succ,List.getElem_cons_zero];(first|((with_reducible refine op_makeSlice ?_);  refine makeBk _ _ rfl _ _ _ _ 24 24 G rfl rfl rfl rfl (by omega) (by omega) HG.out (fun w3 hg3 hF3=>?_);have hX3:=hF3.blk hX2 (by simp);have xc3:=hX3.cells;have hW3:=hW.same hs hF3;clear xc2 hX2 hF3)))|(refine wEA rfl (fun K hK=>?_);go_simp))))
  go_ret2
  refine ⟨rfl,v7,?_⟩
  rw [← List.append_assoc]
  exact hW6.trans hW7
end Go.Proofs.Wx

namespace Go.Proofs.Wx
open Go Go.RowKit
/-- append of one byte that was just laid to such a row; where the row lies then. -/
theorem appF1o {o : Oper} {a : Act} {K : Act → World → Prop} {Q : Exit → Act → World → Prop} {w : World} (s x : Operand)
    (ho : o.op = .call { callee:=.builtin .append,args:=#[s,x],argTypes:=#[76,76] })
    (base : Nat) (v : Value) (xs : List UInt8) (y : UInt8) (hs : a.eval s = v) (hown : OwnF base w v xs) (b c : Nat) (hx : a.eval x = .slice (some ⟨b,0,none⟩) 1 c) (hc : w.cell? ⟨b,0,none⟩ = some (.int .u8 (y.toNat : Nat)))
    (hl : xs.length < 900000000) (hbase : base ≤ w.heap.size)
    (h : ∀ v' w',OwnF base w' v' (xs ++ [y]) → Fr v.ownBlock.toList w w' → (v'.ownBlock = v.ownBlock ∨ ∃ k,v'.ownBlock = some k ∧ w.heap.size ≤ k) → K (a.put o.dst v') w') : o.wp Tryz.prog a w K Q:=by
  obtain ⟨i,hi,hz,hsz,hby⟩:=info_parts u8_info
  have hbs:=hown.bs
  have hnews : ∀ j u,(by8 [y])[j]? = some u → w.cell? ((⟨b,0,none⟩ : Addr).add j) = some u:=by
    intro j u hu
    match j,hu with
    | 0,hu=>simp [by8] at hu;subst hu;rw [Addr.add_lit];exact hc
  obtain ⟨g,cap,cur,fr,rfl,hb,hg,hlc,hcm,hcs,ht,hfz⟩:=hown
  have key : ∃ v' w',(Builtin.append_ #[76,76] o.type #[.slice (some ⟨g,0,none⟩) xs.length cap,.slice (some ⟨b,0,none⟩) 1 c]).run Tryz.prog w = .ok v' w' ∧ OwnF base w' v' (xs ++ [y]) ∧ Fr (Value.slice (some ⟨g,0,none⟩) xs.length cap).ownBlock.toList w w' ∧ (v'.ownBlock = some g ∨ ∃ k,v'.ownBlock = some k ∧ w.heap.size ≤ k):=by
    by_cases hroom : xs.length + 1 ≤ cap
    · have hf:=run_firstCells_some (P:=Tryz.prog) w i.size 1 ⟨b,0,none⟩ 1 c (by8 [y]) (by rw [hsz];simp [by8]) hnews
      have hst:=storeCells_fr (P:=Tryz.prog) g xs.length 5 fr (by8 [y]) 0 cur w hg (by rw [by8_length];simp;omega) hfz (by8_one _)
      simp only [Nat.add_zero,by8_length] at hst
      refine ⟨.slice (some ⟨g,0,none⟩) (xs ++ [y]).length cap,w.setRow g (cur.toList.take xs.length ++ by8 [y] ++ cur.toList.drop (xs.length + [y].length)).toArray,?_,⟨g,cap,(cur.toList.take xs.length ++ by8 [y] ++ cur.toList.drop (xs.length + [y].length)).toArray,fr,rfl,hb,setRow_heap w g cur _ _ fr hg,by simp;omega,hcm,?_,?_,?_⟩,Fr.setRow (.inl (by simp [Value.ownBlock])) Fr.refl,.inl rfl⟩
      · rw [hsz] at hf
        simp [Builtin.append_,run_underlying u8_slice,sizeOf,typeInfo,hi,hsz,Builtin.lenOf,hroom,hf,Addr.add_lit,hst]
      · simp [by8_length];omega
      · rw [List.take_left' (by simp [by8_length];omega),ht,by8_append]
      · intro k hk
        refine hfz k ?_
        simp [by8_length] at hk
        omega
    · have hr:=run_append_grow (P:=Tryz.prog) w 76 o.type 5 i (.int .u8 0) u8_slice hi hz ⟨g,0,none⟩ xs.length cap (by8 xs) (by rw [by8_length,hsz,Nat.mul_one]) (fun j u hu=>by
        obtain ⟨g',c',e,_,hB⟩:=hbs
        cases e
        have hj : j < xs.length:=by have:=(List.getElem?_eq_some_iff.1 hu).1;rwa [by8_length] at this
        rw [by8_at _ _ hj] at hu
        rw [← hu,Addr.add_lit];exact hB.cell j hj) ⟨b,0,none⟩ 1 c (by8 [y]) (by rw [hsz];simp [by8]) hnews (by omega) (by omega) (by rw [hby];exact growslice_fits (by omega) (by omega))
      refine ⟨_,_,hr,?_,Fr.alloc (Fr.drew Fr.refl),.inr ⟨_,rfl,by simp⟩⟩
      have hge:=grownCap_ge w (xs.length + 1) cap 5
      have hle:=grownCap_le_maxLen w (xs.length + 1) cap 5 (by unfold maxLen;omega)
      have:=own_fr_new (base:=base) (w:=w.drew) (xs:=xs ++ [y]) (C:=grownCap w (xs.length + 1) cap 5) (by exact hbase) (by simpa using hge) hle
        (cur:=(by8 xs).toArray ++ (by8 [y]).toArray ++ Builtin.zeroCells (Value.int .u8 0).cells (grownCap w (xs.length + 1) cap 5 - (xs.length + 1)))
        (X:=(Builtin.zeroCells (Value.int .u8 0).cells (grownCap w (xs.length + 1) cap 5 - (xs.length + 1))).toList) (by simp [by8_append]) (by
          have hz1 : (Value.int IntKind.u8 0).cells.size = 1:=rfl
          simp only [Array.size_append,List.size_toArray,size_zeroCells,hz1,by8_length,List.length_singleton]
          omega)
      simpa using this
  obtain ⟨v',w',hr,h1,h2,h3⟩:=key
  unfold Oper.wp execOp
  simp only [ho,resolve,invoke,builtin,Sem.run_bind,Sem.run_pure,Result.andThen_ok,List.map_toArray,List.map_cons,List.map_nil,hs,hx,hr]
  exact h v' w' h1 h2 (by simpa [Value.ownBlock] using h3)
theorem OwnF.form {base : Nat} {w : World} {v : Value} {xs : List UInt8} (h : OwnF base w v xs) : ∃ g c,v = .slice (some ⟨g,0,none⟩) xs.length c ∧ base ≤ g ∧ g < w.heap.size ∧ xs.length ≤ c:=by
  obtain ⟨g,cap,cur,fr,rfl,hb,hg,hlc,_⟩:=h
  exact ⟨g,cap,rfl,hb,(Array.getElem?_eq_some_iff.1 hg).1,hlc⟩
abbrev tMem : TypeId:=91
end Go.Proofs.Wx
