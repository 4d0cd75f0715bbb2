import Derived.Test.YtdokbceiganhdaaGreatDoorM8
import Derived.Test.YtdokbceiganhdaaGreatDoorM13
import Derived.Test.YtdokbceiganhdaaGreatDoorM14
set_option maxRecDepth 100000
set_option maxHeartbeats 1000000
set_option linter.unusedVariables false
set_option linter.unusedSimpArgs false
set_option linter.deprecated false
set_option linter.all false
set_option linter.unusedSectionVars false
namespace Go.Proofs.Wx
open Go Go.RowKit
abbrev oEx20 : List (Nat × Cls):=[(0,.free),(1,.look),(2,.free),(3,.free),(4,.act),(5,.free),(6,.free),(7,.act)]
abbrev oEx21 : List (Nat × Cls):=[(0,.look),(1,.free),(2,.free),(3,.act),(4,.free)]
theorem leU64 {w : World} {g o n c x : Nat} (hB : Bs w g o (Lib.leBytes 8 x)) (hx : x < 18446744073709551616) (hn : 8 ≤ n) :
    Calls Tryz.prog 116 #[.agg #[],.slice (some ⟨g,o,none⟩) n c] w fun e w'=>e = .returned (.int .u64 x) ∧ Fr [] w w':=by
  obtain ⟨b0,b1,b2,b3,b4,b5,b6,b7,e0⟩ : ∃ b0 b1 b2 b3 b4 b5 b6 b7,Lib.leBytes 8 x = [b0,b1,b2,b3,b4,b5,b6,b7]:=⟨_,_,_,_,_,_,_,_,rfl⟩
  rw [e0] at hB
  refine (Tryz.binary_LE_Uint64 g o n c b0 b1 b2 b3 b4 b5 b6 b7 w hn (hB.cell 0 (by simp)) (hB.cell 1 (by simp)) (hB.cell 2 (by simp)) (hB.cell 3 (by simp)) (hB.cell 4 (by simp)) (hB.cell 5 (by simp)) (hB.cell 6 (by simp)) (hB.cell 7 (by simp))).mono ?_
  rintro e w' ⟨rfl,hb⟩
  exact ⟨by rw [← e0,Lib.leNat_leBytes 8 x hx],Fr.of_below hb (Nat.le_refl _)⟩
theorem w64_nat {x : Nat} (h : x < 1000000000) : RowKit.wrap64 (x : Int) = (x : Int):=wrap64_in (by omega) (by omega)
abbrev tHD : TypeId:=63
set_option maxRecDepth 1000000 in
set_option maxHeartbeats 12800000 in
theorem traitsRead {w : World} {r sb p a b : Nat} {x2 x3 x4 : Value} {xs rest : List UInt8} {i : Nat} (h : Rdr w r sb xs i) (hx : xs.drop i = Lib.leBytes 8 a ++ (Lib.leBytes 8 b ++ rest)) (ha : a < 18446744073709551616) (hb : b < 18446744073709551616)
    (hP : Blk w p [.int .u64 0,.int .u64 0,x2,x3,x4] tHD (0,0)) (hpr : p ≠ r) (hps : p ≠ sb) :
    Calls Tryz.prog 114 #[.pointer (some ⟨p,0,none⟩),.iface 74 (.pointer (some ⟨r,0,none⟩))] w fun e w' =>
      e = .returned (.tuple #[.int .i64 16,.nilIface]) ∧ Rdr w' r sb xs (i + 16) ∧ Blk w' p [.int .u64 a,.int .u64 b,x2,x3,x4] tHD (0,0) ∧ Fr [r,p] w w':=by
  have hlt:=h.lt
  have hpl:=hP.lt
  have hlen : i + 16 ≤ xs.length:=by have:=congrArg List.length hx;simp [lb8] at this;omega
  have hdt : (xs.drop i).take 16 = Lib.leBytes 8 a ++ Lib.leBytes 8 b:=by rw [hx,← List.append_assoc,List.take_left' (by simp [lb8])]
  have HD:=Lib.hid hdt
  clear hdt hx
  have ha':=fun (w' : World) (g n c : Nat) (hB : Bs w' g 0 (Lib.leBytes 8 a)) hn=>leU64 (o:=0) (n:=n) (c:=c) hB ha hn
  have hb':=fun (w' : World) (g n c : Nat) (hB : Bs w' g 8 (Lib.leBytes 8 b)) hn=>leU64 (o:=8) (n:=n) (c:=c) hB hb hn
  have HA:=Lib.hid ha'
  have HB:=Lib.hid hb'
  clear ha hb ha' hb'
  go_enter Tryz.func114,Tryz.ntmps114
  go_wp2_with (first
    | ((with_reducible refine list_makeSlice (fun K hK=>?_));  refine makeBk _ _ rfl _ _ _ _ 16 16 w.heap.size rfl rfl rfl rfl (by omega) (by omega) rfl (fun w1 hg1 hF1=>?_);have hs1:=hF1.size)
    | go_at_call 115;refine (readFull (h.fr hF1 (by simp) (by simp)) w.heap.size 0 16 16 _ _ hg1 (by simp) (by omega) (by omega) (by omega) hlen).mono ?_;rintro e w2 ⟨rfl,hR2,hB2,hF2⟩;have hP2:=(hF2.blk (hF1.blk hP (by simp)) (by simp;omega));have hB2' : Blk w2 w.heap.size (by8 (Lib.leBytes 8 a ++ Lib.leBytes 8 b)) 5 (0,0):=hB2.conv (by rw [HD.out];simp [lay,by8,lb8]);have ba2 : Bs w2 w.heap.size 0 (Lib.leBytes 8 a):=Blk.bs (pre:=[]) (post:=by8 (Lib.leBytes 8 b)) hB2' (by simp [by8_append]) rfl;have bb2 : Bs w2 w.heap.size 8 (Lib.leBytes 8 b):=Blk.bs (pre:=by8 (Lib.leBytes 8 a)) (post:=[]) hB2' (by simp [by8_append]) (by simp [by8_length,lb8]);clear hB2 hB2'
    | go_at_call 116;(with_reducible refine (HA.out _ _ 8 16 ba2.drew (by omega)).mono ?_);rintro e w3 ⟨rfl,hF3⟩;have hP3:=hF3.blk hP2.drew (by simp);have pc3:=hP3.cells;have pf3:=hP3.free;have H3:=Lib.hid (And.intro hP3 (And.intro hF3 (And.intro hF2 (And.intro hF1 (And.intro bb2 hR2)))));clear hP3 hF3 hF2 hF1 bb2 ba2 hR2 hP2 hg1
    | go_at_call 116;(with_reducible refine (HB.out _ _ 8 8 (Bs.drew (Bs.setNe (a:=⟨p,0,none⟩) (v:=.int .u64 a) (by simp;omega) (H3.out.2.2.2.2.1.drew.fr H3.out.2.1 (by simp)))) (by omega)).mono ?_);rintro e w5 ⟨rfl,hF5⟩;clear pc3 pf3;have hP5:=hF5.blk (Blk.drew (H3.out.1.set (o:=0) (v:=.int .u64 a))) (by simp);have pc5:=hP5.cells;have pf5:=hP5.free;have H5:=Lib.hid (And.intro hP5 hF5);clear hP5 hF5
    | (refine wre 6 oEx20 ?_)
    | (refine wre 7 oEx20 ?_)
    | (with_reducible refine wEI ?_;(first|(refine wEN ?_;skip)|(refine wEF rfl (fun K hK=>?_);go_simp)|(refine wEL rfl rfl (fun K hK=>?_);go_simp)|(refine wER rfl (fun K hK=>?_);go_simp)|(refine wEM rfl (fun K hK=>?_);go_simp;try refine ⟨_,_,⟨rfl,rfl⟩,?_⟩)|(refine wpE_growp rfl rfl (fun K hK=>?_);simp only [List.getElem_toArray,List.getElem_cons_succ,List.getElem_cons_zero];(first|((with_reducible refine op_makeSlice ?_);  refine makeBk _ _ rfl _ _ _ _ 16 16 w.heap.size rfl rfl rfl rfl (by omega) (by omega) rfl (fun w1 hg1 hF1=>?_);have hs1:=hF1.size)))|(refine wEG rfl (fun K hK=>?_);go_simp)|(refine wpE_actp rfl rfl (fun K hK=>?_);simp only [List.getElem_toArray,List.getElem_cons_succ,List.getElem_cons_zero];(first|((with_reducible refine op_makeSlice ?_);  refine makeBk _ _ rfl _ _ _ _ 16 16 w.heap.size rfl rfl rfl rfl (by omega) (by omega) rfl (fun w1 hg1 hF1=>?_);have hs1:=hF1.size)))|(refine wEA rfl (fun K hK=>?_);go_simp))))
  go_ret2
  obtain ⟨hP3,hF3,hF2,hF1,bb2,hR2⟩:=H3.out
  obtain ⟨hP5,hF5⟩:=H5.out
  have hF24 : Fr [p] w2 (w3.setCell ⟨p,0,none⟩ (.int .u64 a)):=Fr.setCell (by simp) (Fr.trans (S:=[p]) (S':=[]) (Fr.drew Fr.refl) hF3 (by simp))
  have hF25 : Fr [p] w2 (w5.setCell ⟨p,1,none⟩ (.int .u64 b)):=Fr.setCell (by simp) (Fr.trans (S:=[p]) (S':=[]) (Fr.drew hF24) hF5 (by simp))
  exact ⟨rfl,hR2.fr hF25 (by simp;omega) (by simp;omega),hP5.set,Fr.trans (S:=[r,p]) (S':=[p]) (Fr.trans (S:=[r,p]) (S':=[r,w.heap.size]) (hF1.mono (by simp)) hF2 (by first|(simp;done)|(simp;omega))) hF25 (by first|(simp;done)|(simp;omega))⟩
set_option maxRecDepth 1000000 in
set_option maxHeartbeats 12800000 in
theorem headerRead {w : World} {r sb p a b x y z : Nat} {xs rest : List UInt8} {i : Nat} (h : Rdr w r sb xs i) (hx : xs.drop i = hdrB a b x y z ++ rest) (ha : a < 18446744073709551616) (hb : b < 18446744073709551616) (h51 : 51 ≤ x) (hx9 : x < 1000000000) (hy0 : 0 < y) (hy9 : y < 1000000000) (hz9 : z < 1000000000)
    (hP : Blk w p [.int .u64 0,.int .u64 0,.int .u64 0,.int .u64 0,.int .u64 0] tHD (0,0)) (hpr : p ≠ r) (hps : p ≠ sb) :
    Calls Tryz.prog 77 #[.pointer (some ⟨p,0,none⟩),.iface 74 (.pointer (some ⟨r,0,none⟩))] w fun e w' =>
      e = .returned (.tuple #[.int .i64 40,.nilIface]) ∧ Rdr w' r sb xs (i + 40) ∧ Blk w' p [.int .u64 a,.int .u64 b,.int .u64 x,.int .u64 y,.int .u64 z] tHD (0,0) ∧ Fr [r,p] w w':=by
  have hlt:=h.lt
  have hpl:=hP.lt
  have hlen : i + 16 + 24 ≤ xs.length:=by have:=congrArg List.length hx;simp [hdrB_length] at this;omega
  have hc1:=traitsRead h (a:=a) (b:=b) (rest:=Lib.leBytes 8 x ++ (Lib.leBytes 8 y ++ (Lib.leBytes 8 z ++ rest))) (by rw [hx];simp [hdrB]) ha hb hP hpr hps
  have hdt : (xs.drop (i + 16)).take 24 = Lib.leBytes 8 x ++ (Lib.leBytes 8 y ++ Lib.leBytes 8 z):=by
    rw [← List.drop_drop,hx]
    have e : hdrB a b x y z ++ rest = (Lib.leBytes 8 a ++ Lib.leBytes 8 b) ++ ((Lib.leBytes 8 x ++ (Lib.leBytes 8 y ++ Lib.leBytes 8 z)) ++ rest):=by simp [hdrB]
    rw [e,List.drop_left' (by simp [lb8]),List.take_left' (by simp [lb8])]
  have HD:=Lib.hid hdt
  have hxr:=fun (w' : World) (g n c : Nat) (hB : Bs w' g 0 (Lib.leBytes 8 x)) hn=>leU64 (o:=0) (n:=n) (c:=c) hB (by omega) hn
  have hyr:=fun (w' : World) (g n c : Nat) (hB : Bs w' g 8 (Lib.leBytes 8 y)) hn=>leU64 (o:=8) (n:=n) (c:=c) hB (by omega) hn
  have hzr:=fun (w' : World) (g n c : Nat) (hB : Bs w' g 16 (Lib.leBytes 8 z)) hn=>leU64 (o:=16) (n:=n) (c:=c) hB (by omega) hn
  have HX:=Lib.hid hxr
  have HY:=Lib.hid hyr
  have HZ:=Lib.hid hzr
  have H0:=Lib.hid h
  have z1 : ¬ (x : Int) < 51:=by omega
  have z3 : ¬ (y : Int) ≤ 0:=by omega
  have z5 : ¬ (z : Int) < 0:=by omega
  have w2x:=w64_nat hx9
  have w2y:=w64_nat hy9
  have w2z:=w64_nat hz9
  clear hxr hyr hzr ha hb hdt hx h51 hx9 hy0 hy9 hz9 hP h
  go_enter Tryz.func77,Tryz.ntmps77
  go_wp2_with (first
    | go_at_call 114;refine hc1.mono ?_;rintro e w1 ⟨rfl,hR1,hP1,hF1⟩;have hs1:=hF1.size
    | ((with_reducible refine list_makeSlice (fun K hK=>?_));  refine makeBk _ _ rfl _ _ _ _ 24 24 w1.heap.size rfl rfl rfl rfl (by omega) (by omega) rfl (fun w2 hg2 hF2=>?_))
    | go_at_call 115;refine (readFull (hR1.fr hF2 (by simp) (by simp)) w1.heap.size 0 24 24 _ _ hg2 (by simp) (by omega) (by omega) (by omega) hlen).mono ?_;rintro e w3 ⟨rfl,hR3,hB3,hF3⟩;have hP3:=(hF3.blk (hF2.blk hP1 (by simp)) (by simp;omega));have hB3' : Blk w3 w1.heap.size (by8 (Lib.leBytes 8 x ++ (Lib.leBytes 8 y ++ Lib.leBytes 8 z))) 5 (0,0):=hB3.conv (by rw [HD.out];simp [lay,by8,lb8]);have bx3 : Bs w3 w1.heap.size 0 (Lib.leBytes 8 x):=Blk.bs (pre:=[]) (post:=by8 (Lib.leBytes 8 y ++ Lib.leBytes 8 z)) hB3' (by simp [by8_append]) rfl;have by3 : Bs w3 w1.heap.size 8 (Lib.leBytes 8 y):=Blk.bs (pre:=by8 (Lib.leBytes 8 x)) (post:=by8 (Lib.leBytes 8 z)) hB3' (by simp [by8_append]) (by simp [by8_length,lb8]);have bz3 : Bs w3 w1.heap.size 16 (Lib.leBytes 8 z):=Blk.bs (pre:=by8 (Lib.leBytes 8 x ++ Lib.leBytes 8 y)) (post:=[]) hB3' (by simp [by8_append]) (by simp [by8_length,lb8]);have hF13 : Fr [r] w1 w3:=Fr.trans (S:=[r]) (hF2.mono (by simp)) hF3 (by first|(simp;done)|(simp;omega));have H3:=Lib.hid (And.intro hR3 (And.intro hP3 (And.intro bx3 (And.intro by3 (And.intro bz3 (And.intro hF13 hF1))))));clear hB3 hB3' hF3 hF2 hg2 hR3 hP3 bx3 by3 bz3 hR1 hP1 hF1 hF13
    | go_at_call 116;(with_reducible refine (HX.out _ _ 8 24 H3.out.2.2.1.drew (by omega)).mono ?_);rintro e w4 ⟨rfl,hF4⟩;have H4:=Lib.hid hF4;clear hF4
    | go_at_call 116;(with_reducible refine (HY.out _ _ 8 16 (H3.out.2.2.2.1.drew.fr H4.out (by simp)).drew (by omega)).mono ?_);rintro e w5 ⟨rfl,hF5⟩;have H5:=Lib.hid hF5;clear hF5
    | go_at_call 116;(with_reducible refine (HZ.out _ _ 8 8 ((H3.out.2.2.2.2.1.drew.fr H4.out (by simp)).drew.fr H5.out (by simp)).drew (by omega)).mono ?_);rintro e w6 ⟨rfl,hF6⟩;have hP6:=hF6.blk (Blk.drew (H5.out.blk (Blk.drew (H4.out.blk (Blk.drew H3.out.2.1) (by simp))) (by simp))) (by simp);have pc6:=hP6.cells;have pf6:=hP6.free;have H6:=Lib.hid (And.intro hP6 hF6);clear hP6 hF6
    | (refine wre 9 oEx21 ?_)
    | (refine wre 10 oEx21 ?_)
    | (refine wre 11 oEx21 ?_)
    | (with_reducible refine wEI ?_;(first|(refine wEN ?_;skip)|(refine wEF rfl (fun K hK=>?_);go_simp)|(refine wEL rfl rfl (fun K hK=>?_);go_simp)|(refine wER rfl (fun K hK=>?_);go_simp)|(refine wEM rfl (fun K hK=>?_);go_simp;try refine ⟨_,_,⟨rfl,rfl⟩,?_⟩)|(refine wpE_growp rfl rfl (fun K hK=>?_);simp only [List.getElem_toArray,List.getElem_cons_succ,List.getElem_cons_zero];(first|((with_reducible refine op_makeSlice ?_);  refine makeBk _ _ rfl _ _ _ _ 24 24 w1.heap.size rfl rfl rfl rfl (by omega) (by omega) rfl (fun w2 hg2 hF2=>?_))))|(refine wEG rfl (fun K hK=>?_);go_simp)|(refine wpE_actp rfl rfl (fun K hK=>?_);simp only [List.getElem_toArray,List.getElem_cons_succ,List.getElem_cons_zero];(first|((with_reducible refine op_makeSlice ?_);  refine makeBk _ _ rfl _ _ _ _ 24 24 w1.heap.size rfl rfl rfl rfl (by omega) (by omega) rfl (fun w2 hg2 hF2=>?_))))|(refine wEA rfl (fun K hK=>?_);go_simp))))
  go_ret2
  obtain ⟨hR3,hP3,bx3,by3,bz3,hF13,hF1⟩:=H3.out
  obtain ⟨hP6,hF6⟩:=H6.out
  have hF36 : Fr [] w3 w6:=Fr.trans (S:=[]) (S':=[]) (Fr.drew (Fr.trans (S:=[]) (S':=[]) (Fr.drew (Fr.trans (S:=[]) (S':=[]) (Fr.drew Fr.refl) H4.out (by simp))) H5.out (by simp))) hF6 (by simp)
  have hF37 : Fr [p] w3 (((w6.setCell ⟨p,2,none⟩ (.int .u64 x)).setCell ⟨p,3,none⟩ (.int .u64 y)).setCell ⟨p,4,none⟩ (.int .u64 z)):=Fr.setCell (by simp) (Fr.setCell (by simp) (Fr.setCell (by simp) (hF36.mono (by simp))))
  exact ⟨rfl,hR3.fr hF37 (by simp;omega) (by simp;omega),Blk.conv (Blk.set (Blk.set (Blk.set hP6))) rfl,Fr.trans (S:=[r,p]) (S':=[p]) (Fr.trans (S:=[r,p]) (S':=[r]) hF1 hF13 (by first|(simp;done)|(simp;omega))) hF37 (by first|(simp;done)|(simp;omega))⟩
end Go.Proofs.Wx

namespace Go.Proofs.Wx
open Go Go.RowKit
abbrev oHrS0 : List (Nat × Cls):=[(0,.free),(1,.look),(2,.free),(3,.free),(4,.act),(5,.free),(6,.free),(7,.act)]
abbrev oHrS1 : List (Nat × Cls):=[(0,.look),(1,.free),(2,.free),(3,.act),(4,.free)]
variable {T : TypeId} {ra : Addr} {S D : List Nat} {xs : List UInt8} {I : World → Nat → Prop} {f : Nat}
set_option maxRecDepth 1000000 in
set_option maxHeartbeats 12800000 in
theorem traitsReadS {w : World} {p a b : Nat} {tl : List Value} {Tq : TypeId} {rest : List UInt8} {i : Nat} (hs : Src T ra S D xs I f) (h : I w i) (hx : xs.drop i = Lib.leBytes 8 a ++ (Lib.leBytes 8 b ++ rest)) (ha : a < 18446744073709551616) (hb : b < 18446744073709551616)
    (hP : Blk w p (.int .u64 0 :: .int .u64 0 :: tl) Tq (0,0)) (hpD : p ∉ D) :
    Calls Tryz.prog 114 #[.pointer (some ⟨p,0,none⟩),.iface T (.pointer (some ra))] w fun e w' =>
      e = .returned (.tuple #[.int .i64 16,.nilIface]) ∧ I w' (i + 16) ∧ Blk w' p (.int .u64 a :: .int .u64 b :: tl) Tq (0,0) ∧ Fr (p :: S) w w':=by
  have hlt:=hs.lt _ _ h
  have hpS : p ∉ S:=fun hm=>hpD (hs.sub _ hm)
  have hpl:=hP.lt
  have hlen : i + 16 ≤ xs.length:=by have:=congrArg List.length hx;simp [lb8] at this;omega
  have hdt : (xs.drop i).take 16 = Lib.leBytes 8 a ++ Lib.leBytes 8 b:=by rw [hx,← List.append_assoc,List.take_left' (by simp [lb8])]
  have HD:=Lib.hid hdt
  clear hdt hx
  have ha':=fun (w' : World) (g n c : Nat) (hB : Bs w' g 0 (Lib.leBytes 8 a)) hn=>leU64 (o:=0) (n:=n) (c:=c) hB ha hn
  have hb':=fun (w' : World) (g n c : Nat) (hB : Bs w' g 8 (Lib.leBytes 8 b)) hn=>leU64 (o:=8) (n:=n) (c:=c) hB hb hn
  have HA:=Lib.hid ha'
  have HB:=Lib.hid hb'
  clear ha hb ha' hb'
  go_enter Tryz.func114,Tryz.ntmps114
  go_wp2_with (first
    | ((with_reducible refine list_makeSlice (fun K hK=>?_));  refine makeBk _ _ rfl _ _ _ _ 16 16 w.heap.size rfl rfl rfl rfl (by omega) (by omega) rfl (fun w1 hg1 hF1=>?_);have hs1:=hF1.size)
    | go_at_call 115;refine (readFullS hs (hs.fr _ _ _ _ h hF1 (by simp)) w.heap.size 0 16 16 _ _ hg1 (by simp) (by omega) (fun hm=>Nat.lt_irrefl _ (hlt _ hm)) hlen).mono ?_;rintro e w2 ⟨rfl,hR2,hB2,hF2⟩;have hP2:=(hF2.blk (hF1.blk hP (by simp)) (by simp;exact ⟨by omega,hpS⟩));have hB2' : Blk w2 w.heap.size (by8 (Lib.leBytes 8 a ++ Lib.leBytes 8 b)) 5 (0,0):=hB2.conv (by rw [HD.out];simp [lay,by8,lb8]);have ba2 : Bs w2 w.heap.size 0 (Lib.leBytes 8 a):=Blk.bs (pre:=[]) (post:=by8 (Lib.leBytes 8 b)) hB2' (by simp [by8_append]) rfl;have bb2 : Bs w2 w.heap.size 8 (Lib.leBytes 8 b):=Blk.bs (pre:=by8 (Lib.leBytes 8 a)) (post:=[]) hB2' (by simp [by8_append]) (by simp [by8_length,lb8]);clear hB2 hB2'
    | go_at_call 116;(with_reducible refine (HA.out _ _ 8 16 ba2.drew (by omega)).mono ?_);rintro e w3 ⟨rfl,hF3⟩;have hP3:=hF3.blk hP2.drew (by simp);have pc3:=hP3.cells;have pf3:=hP3.free;have H3:=Lib.hid (And.intro hP3 (And.intro hF3 (And.intro hF2 (And.intro hF1 (And.intro bb2 hR2)))));clear hP3 hF3 hF2 hF1 bb2 ba2 hR2 hP2 hg1
    | go_at_call 116;(with_reducible refine (HB.out _ _ 8 8 (Bs.drew (Bs.setNe (a:=⟨p,0,none⟩) (v:=.int .u64 a) (by simp;omega) (H3.out.2.2.2.2.1.drew.fr H3.out.2.1 (by simp)))) (by omega)).mono ?_);rintro e w5 ⟨rfl,hF5⟩;clear pc3 pf3;have hP5:=hF5.blk (Blk.drew (H3.out.1.set (o:=0) (v:=.int .u64 a))) (by simp);have pc5:=hP5.cells;have pf5:=hP5.free;have H5:=Lib.hid (And.intro hP5 hF5);clear hP5 hF5
    | (refine wre 6 oHrS0 ?_)
    | (refine wre 7 oHrS0 ?_)
    | (with_reducible refine wEI ?_;(first|(refine wEN ?_;skip)|(refine wEF rfl (fun K hK=>?_);go_simp)|(refine wEL rfl rfl (fun K hK=>?_);go_simp)|(refine wER rfl (fun K hK=>?_);go_simp)|(refine wEM rfl (fun K hK=>?_);go_simp;try refine ⟨_,_,⟨rfl,rfl⟩,?_⟩)|(refine wpE_growp rfl rfl (fun K hK=>?_);simp only [List.getElem_toArray,List.getElem_cons_succ,List.getElem_cons_zero];(first|((with_reducible refine op_makeSlice ?_);  refine makeBk _ _ rfl _ _ _ _ 16 16 w.heap.size rfl rfl rfl rfl (by omega) (by omega) rfl (fun w1 hg1 hF1=>?_);have hs1:=hF1.size)))|(refine wEG rfl (fun K hK=>?_);go_simp)|(refine wpE_actp rfl rfl (fun K hK=>?_);simp only [List.getElem_toArray,List.getElem_cons_succ,List.getElem_cons_zero];(first|((with_reducible refine op_makeSlice ?_);  refine makeBk _ _ rfl _ _ _ _ 16 16 w.heap.size rfl rfl rfl rfl (by omega) (by omega) rfl (fun w1 hg1 hF1=>?_);have hs1:=hF1.size)))|(refine wEA rfl (fun K hK=>?_);go_simp))))
  go_ret2
  obtain ⟨hP3,hF3,hF2,hF1,bb2,hR2⟩:=H3.out
  obtain ⟨hP5,hF5⟩:=H5.out
  have hF24 : Fr [p] w2 (w3.setCell ⟨p,0,none⟩ (.int .u64 a)):=Fr.setCell (by simp) (Fr.trans (S:=[p]) (S':=[]) (Fr.drew Fr.refl) hF3 (by simp))
  have hF25 : Fr [p] w2 (w5.setCell ⟨p,1,none⟩ (.int .u64 b)):=Fr.setCell (by simp) (Fr.trans (S:=[p]) (S':=[]) (Fr.drew hF24) hF5 (by simp))
  exact ⟨rfl,hs.fr _ _ _ _ hR2 hF25 (by simp;exact hpD),hP5.set,Fr.trans (S:=p :: S) (S':=[p]) (Fr.trans (S:=p :: S) (S':=w.heap.size :: S) (hF1.mono (by simp)) hF2 (fun k hk hl=>by rcases List.mem_cons.1 hk with rfl|hk;omega;exact List.mem_cons_of_mem _ hk)) hF25 (by simp)⟩
set_option maxRecDepth 1000000 in
set_option maxHeartbeats 12800000 in
theorem headerReadS {w : World} {p a b x y z : Nat} {tl : List Value} {Tq : TypeId} {rest : List UInt8} {i : Nat} (hs : Src T ra S D xs I f) (h : I w i) (hx : xs.drop i = hdrB a b x y z ++ rest) (ha : a < 18446744073709551616) (hb : b < 18446744073709551616) (h51 : 51 ≤ x) (hx9 : x < 1000000000) (hy0 : 0 < y) (hy9 : y < 1000000000) (hz9 : z < 1000000000)
    (hP : Blk w p (.int .u64 0 :: .int .u64 0 :: .int .u64 0 :: .int .u64 0 :: .int .u64 0 :: tl) Tq (0,0)) (hpD : p ∉ D) :
    Calls Tryz.prog 77 #[.pointer (some ⟨p,0,none⟩),.iface T (.pointer (some ra))] w fun e w' =>
      e = .returned (.tuple #[.int .i64 40,.nilIface]) ∧ I w' (i + 40) ∧ Blk w' p (.int .u64 a :: .int .u64 b :: .int .u64 x :: .int .u64 y :: .int .u64 z :: tl) Tq (0,0) ∧ Fr (p :: S) w w':=by
  have hlt:=hs.lt _ _ h
  have hpS : p ∉ S:=fun hm=>hpD (hs.sub _ hm)
  have hpl:=hP.lt
  have hlen : i + 16 + 24 ≤ xs.length:=by have:=congrArg List.length hx;simp [hdrB_length] at this;omega
  have hc1:=traitsReadS hs h (a:=a) (b:=b) (rest:=Lib.leBytes 8 x ++ (Lib.leBytes 8 y ++ (Lib.leBytes 8 z ++ rest))) (by rw [hx];simp [hdrB]) ha hb hP hpD
  have hdt : (xs.drop (i + 16)).take 24 = Lib.leBytes 8 x ++ (Lib.leBytes 8 y ++ Lib.leBytes 8 z):=by
    rw [← List.drop_drop,hx]
    have e : hdrB a b x y z ++ rest = (Lib.leBytes 8 a ++ Lib.leBytes 8 b) ++ ((Lib.leBytes 8 x ++ (Lib.leBytes 8 y ++ Lib.leBytes 8 z)) ++ rest):=by simp [hdrB]
    rw [e,List.drop_left' (by simp [lb8]),List.take_left' (by simp [lb8])]
  have HD:=Lib.hid hdt
  have hxr:=fun (w' : World) (g n c : Nat) (hB : Bs w' g 0 (Lib.leBytes 8 x)) hn=>leU64 (o:=0) (n:=n) (c:=c) hB (by omega) hn
  have hyr:=fun (w' : World) (g n c : Nat) (hB : Bs w' g 8 (Lib.leBytes 8 y)) hn=>leU64 (o:=8) (n:=n) (c:=c) hB (by omega) hn
  have hzr:=fun (w' : World) (g n c : Nat) (hB : Bs w' g 16 (Lib.leBytes 8 z)) hn=>leU64 (o:=16) (n:=n) (c:=c) hB (by omega) hn
  have HX:=Lib.hid hxr
  have HY:=Lib.hid hyr
  have HZ:=Lib.hid hzr
  have H0:=Lib.hid h
  have z1 : ¬ (x : Int) < 51:=by omega
  have z3 : ¬ (y : Int) ≤ 0:=by omega
  have z5 : ¬ (z : Int) < 0:=by omega
  have w2x:=w64_nat hx9
  have w2y:=w64_nat hy9
  have w2z:=w64_nat hz9
  clear hxr hyr hzr ha hb hdt hx h51 hx9 hy0 hy9 hz9 hP h
  go_enter Tryz.func77,Tryz.ntmps77
  go_wp2_with (first
    | go_at_call 114;refine hc1.mono ?_;rintro e w1 ⟨rfl,hR1,hP1,hF1⟩;have hs1:=hF1.size
    | ((with_reducible refine list_makeSlice (fun K hK=>?_));  refine makeBk _ _ rfl _ _ _ _ 24 24 w1.heap.size rfl rfl rfl rfl (by omega) (by omega) rfl (fun w2 hg2 hF2=>?_))
    | go_at_call 115;refine (readFullS hs (hs.fr _ _ _ _ hR1 hF2 (by simp)) w1.heap.size 0 24 24 _ _ hg2 (by simp) (by omega) (fun hm=>by have:=hlt _ hm;omega) hlen).mono ?_;rintro e w3 ⟨rfl,hR3,hB3,hF3⟩;have hP3:=(hF3.blk (hF2.blk hP1 (by simp)) (by simp;exact ⟨by omega,hpS⟩));have hB3' : Blk w3 w1.heap.size (by8 (Lib.leBytes 8 x ++ (Lib.leBytes 8 y ++ Lib.leBytes 8 z))) 5 (0,0):=hB3.conv (by rw [HD.out];simp [lay,by8,lb8]);have bx3 : Bs w3 w1.heap.size 0 (Lib.leBytes 8 x):=Blk.bs (pre:=[]) (post:=by8 (Lib.leBytes 8 y ++ Lib.leBytes 8 z)) hB3' (by simp [by8_append]) rfl;have by3 : Bs w3 w1.heap.size 8 (Lib.leBytes 8 y):=Blk.bs (pre:=by8 (Lib.leBytes 8 x)) (post:=by8 (Lib.leBytes 8 z)) hB3' (by simp [by8_append]) (by simp [by8_length,lb8]);have bz3 : Bs w3 w1.heap.size 16 (Lib.leBytes 8 z):=Blk.bs (pre:=by8 (Lib.leBytes 8 x ++ Lib.leBytes 8 y)) (post:=[]) hB3' (by simp [by8_append]) (by simp [by8_length,lb8]);have hF13 : Fr S w1 w3:=Fr.trans (S:=S) (hF2.mono (by simp)) hF3 (fun k hk hl=>by rcases List.mem_cons.1 hk with rfl|hk;omega;exact hk);have H3:=Lib.hid (And.intro hR3 (And.intro hP3 (And.intro bx3 (And.intro by3 (And.intro bz3 (And.intro hF13 hF1))))));clear hB3 hB3' hF3 hF2 hg2 hR3 hP3 bx3 by3 bz3 hR1 hP1 hF1 hF13
    | go_at_call 116;(with_reducible refine (HX.out _ _ 8 24 H3.out.2.2.1.drew (by omega)).mono ?_);rintro e w4 ⟨rfl,hF4⟩;have H4:=Lib.hid hF4;clear hF4
    | go_at_call 116;(with_reducible refine (HY.out _ _ 8 16 (H3.out.2.2.2.1.drew.fr H4.out (by simp)).drew (by omega)).mono ?_);rintro e w5 ⟨rfl,hF5⟩;have H5:=Lib.hid hF5;clear hF5
    | go_at_call 116;(with_reducible refine (HZ.out _ _ 8 8 ((H3.out.2.2.2.2.1.drew.fr H4.out (by simp)).drew.fr H5.out (by simp)).drew (by omega)).mono ?_);rintro e w6 ⟨rfl,hF6⟩;have hP6:=hF6.blk (Blk.drew (H5.out.blk (Blk.drew (H4.out.blk (Blk.drew H3.out.2.1) (by simp))) (by simp))) (by simp);have pc6:=hP6.cells;have pf6:=hP6.free;have H6:=Lib.hid (And.intro hP6 hF6);clear hP6 hF6
    | (refine wre 9 oHrS1 ?_)
    | (refine wre 10 oHrS1 ?_)
    | (refine wre 11 oHrS1 ?_)
    | (with_reducible refine wEI ?_;(first|(refine wEN ?_;skip)|(refine wEF rfl (fun K hK=>?_);go_simp)|(refine wEL rfl rfl (fun K hK=>?_);go_simp)|(refine wER rfl (fun K hK=>?_);go_simp)|(refine wEM rfl (fun K hK=>?_);go_simp;try refine ⟨_,_,⟨rfl,rfl⟩,?_⟩)|(refine wpE_growp rfl rfl (fun K hK=>?_);simp only [List.getElem_toArray,List.getElem_cons_succ,List.getElem_cons_zero];(first|((with_reducible refine op_makeSlice ?_);  refine makeBk _ _ rfl _ _ _ _ 24 24 w1.heap.size rfl rfl rfl rfl (by omega) (by omega) rfl (fun w2 hg2 hF2=>?_))))|(refine wEG rfl (fun K hK=>?_);go_simp)|(refine wpE_actp rfl rfl (fun K hK=>?_);simp only [List.getElem_toArray,List.getElem_cons_succ,List.getElem_cons_zero];(first|((with_reducible refine op_makeSlice ?_);  refine makeBk _ _ rfl _ _ _ _ 24 24 w1.heap.size rfl rfl rfl rfl (by omega) (by omega) rfl (fun w2 hg2 hF2=>?_))))|(refine wEA rfl (fun K hK=>?_);go_simp))))
  go_ret2
  obtain ⟨hR3,hP3,bx3,by3,bz3,hF13,hF1⟩:=H3.out
  obtain ⟨hP6,hF6⟩:=H6.out
  have hF36 : Fr [] w3 w6:=Fr.trans (S:=[]) (S':=[]) (Fr.drew (Fr.trans (S:=[]) (S':=[]) (Fr.drew (Fr.trans (S:=[]) (S':=[]) (Fr.drew Fr.refl) H4.out (by simp))) H5.out (by simp))) hF6 (by simp)
  have hF37 : Fr [p] w3 (((w6.setCell ⟨p,2,none⟩ (.int .u64 x)).setCell ⟨p,3,none⟩ (.int .u64 y)).setCell ⟨p,4,none⟩ (.int .u64 z)):=Fr.setCell (by simp) (Fr.setCell (by simp) (Fr.setCell (by simp) (hF36.mono (by simp))))
  exact ⟨rfl,hs.fr _ _ _ _ hR3 hF37 (by simp;exact hpD),Blk.conv (Blk.set (Blk.set (Blk.set hP6))) rfl,Fr.trans (S:=p :: S) (S':=[p]) (Fr.trans (S:=p :: S) (S':=S) hF1 hF13 (fun k hk _=>List.mem_cons_of_mem _ hk)) hF37 (by simp)⟩
end Go.Proofs.Wx

namespace Go.Proofs.Wx
open Go Go.RowKit
theorem leU32 {w : World} {g o n c x : Nat} (hB : Bs w g o (Lib.leBytes 4 x)) (hx : x < 4294967296) (hn : 4 ≤ n) :
    Calls Tryz.prog 301 #[.agg #[],.slice (some ⟨g,o,none⟩) n c] w fun e w'=>e = .returned (.int .u32 x) ∧ Fr [] w w':=by
  obtain ⟨b0,b1,b2,b3,e0⟩ : ∃ b0 b1 b2 b3,Lib.leBytes 4 x = [b0,b1,b2,b3]:=⟨_,_,_,_,rfl⟩
  rw [e0] at hB
  refine (Tryz.binary_LE_Uint32 g o n c b0 b1 b2 b3 w hn (hB.cell 0 (by simp)) (hB.cell 1 (by simp)) (hB.cell 2 (by simp)) (hB.cell 3 (by simp))).mono ?_
  rintro e w' ⟨rfl,hb⟩
  exact ⟨by rw [← e0,Lib.leNat_leBytes 4 x hx],Fr.of_below hb (Nat.le_refl _)⟩
section
variable {T : TypeId} {ra : Addr} {S D : List Nat} {xs : List UInt8} {I : World → Nat → Prop} {f : Nat}
theorem read32S (hs : Src T ra S D xs I f) {w : World} {i x q oo : Nat} {rest : List UInt8} {cs : List Value} {Tq : TypeId} (h : I w i) (hx : xs.drop i = Lib.leBytes 4 x ++ rest) (hx2 : x < 4294967296) (hQ : Blk w q cs Tq (0,0)) (ho : oo < cs.length) (hqD : q ∉ D) :
    Calls Tryz.prog 292 #[.iface T (.pointer (some ra)),.pointer (some ⟨q,oo,none⟩)] w fun e w'=>e = .returned .nilIface ∧ I w' (i + 4) ∧ Blk w' q (cs.set oo (.int .u32 x)) Tq (0,0) ∧ Fr (q :: S) w w':=by
  have hlt:=hs.lt _ _ h
  have hqS : q ∉ S:=fun hm=>hqD (hs.sub _ hm)
  have hql:=hQ.lt
  have hlen : i + 4 ≤ xs.length:=by have:=congrArg List.length hx;simp [Lib.leBytes_length] at this;omega
  have hdt : (xs.drop i).take 4 = Lib.leBytes 4 x:=by rw [hx,List.take_left' (Lib.leBytes_length _ _)]
  have HD:=Lib.hid (And.intro hdt hx2)
  have hco : ∃ v0,cs[oo]? = some v0:=⟨cs[oo],by simp [ho]⟩
  obtain ⟨v0,hco⟩:=hco
  clear hdt hx hx2
  go_enter Tryz.func292,Tryz.ntmps292
  go_wp2_with (first
    | ((with_reducible refine list_makeSlice (fun K hK=>?_));  refine makeBk _ _ rfl _ _ _ _ 4 4 w.heap.size rfl rfl rfl rfl (by omega) (by omega) rfl (fun w1 hg1 hF1=>?_);have hs1:=hF1.size)
    | go_at_call 115;refine (readFullS hs (hs.fr _ _ _ _ h hF1 (by simp)) w.heap.size 0 4 4 _ _ hg1 (by simp) (by omega) (fun hm=>Nat.lt_irrefl _ (hlt _ hm)) hlen).mono ?_;rintro e w2 ⟨rfl,hR2,hB2,hF2⟩;have hQ2:=hF2.blk (hF1.blk hQ (by simp)) (by simp;exact ⟨by omega,hqS⟩);have hb2 : Bs w2 w.heap.size 0 (Lib.leBytes 4 x):=Blk.bsAll hB2 (by rw [HD.out.1];simp [lay,by8_length,Lib.leBytes_length]);clear hB2
    | go_at_call 301;(with_reducible refine (leU32 (o:=0) (n:=4) (c:=4) hb2 HD.out.2 (by omega)).mono ?_);rintro e w3 ⟨rfl,hF3⟩;have hQ3:=hF3.blk hQ2 (by simp);have qc3:=hQ3.cells;have qf3:=hQ3.free)
  go_ret
  have hFS : Fr [q] w3 (w3.setCell ⟨q,oo,none⟩ (.int .u32 x)):=Fr.setCell (by simp) Fr.refl
  exact ⟨rfl,hs.fr _ _ _ _ hR2 (Fr.trans (S:=[q]) (S':=[q]) (hF3.mono (by simp)) hFS (by simp)) (by simp;exact hqD),hQ3.set,Fr.trans (S:=q :: S) (S':=[q]) (Fr.trans (S:=q :: S) (S':=w.heap.size :: S) (hF1.mono (by simp)) hF2 (fun k hk hl=>by rcases List.mem_cons.1 hk with rfl|hk;omega;exact List.mem_cons_of_mem _ hk)) (Fr.trans (S:=[q]) (S':=[q]) (hF3.mono (by simp)) hFS (by simp)) (by simp)⟩
theorem read64S (hs : Src T ra S D xs I f) {w : World} {i x q oo : Nat} {rest : List UInt8} {cs : List Value} {Tq : TypeId} (h : I w i) (hx : xs.drop i = Lib.leBytes 8 x ++ rest) (hx2 : x < 18446744073709551616) (hQ : Blk w q cs Tq (0,0)) (ho : oo < cs.length) (hqD : q ∉ D) :
    Calls Tryz.prog 302 #[.iface T (.pointer (some ra)),.pointer (some ⟨q,oo,none⟩)] w fun e w'=>e = .returned .nilIface ∧ I w' (i + 8) ∧ Blk w' q (cs.set oo (.int .u64 x)) Tq (0,0) ∧ Fr (q :: S) w w':=by
  have hlt:=hs.lt _ _ h
  have hqS : q ∉ S:=fun hm=>hqD (hs.sub _ hm)
  have hql:=hQ.lt
  have hlen : i + 8 ≤ xs.length:=by have:=congrArg List.length hx;simp [Lib.leBytes_length] at this;omega
  have hdt : (xs.drop i).take 8 = Lib.leBytes 8 x:=by rw [hx,List.take_left' (Lib.leBytes_length _ _)]
  have HD:=Lib.hid (And.intro hdt hx2)
  have hco : ∃ v0,cs[oo]? = some v0:=⟨cs[oo],by simp [ho]⟩
  obtain ⟨v0,hco⟩:=hco
  clear hdt hx hx2
  go_enter Tryz.func302,Tryz.ntmps302
  go_wp2_with (first
    | ((with_reducible refine list_makeSlice (fun K hK=>?_));  refine makeBk _ _ rfl _ _ _ _ 8 8 w.heap.size rfl rfl rfl rfl (by omega) (by omega) rfl (fun w1 hg1 hF1=>?_);have hs1:=hF1.size)
    | go_at_call 115;refine (readFullS hs (hs.fr _ _ _ _ h hF1 (by simp)) w.heap.size 0 8 8 _ _ hg1 (by simp) (by omega) (fun hm=>Nat.lt_irrefl _ (hlt _ hm)) hlen).mono ?_;rintro e w2 ⟨rfl,hR2,hB2,hF2⟩;have hQ2:=hF2.blk (hF1.blk hQ (by simp)) (by simp;exact ⟨by omega,hqS⟩);have hb2 : Bs w2 w.heap.size 0 (Lib.leBytes 8 x):=Blk.bsAll hB2 (by rw [HD.out.1];simp [lay,by8_length,Lib.leBytes_length]);clear hB2
    | go_at_call 116;(with_reducible refine (leU64 (o:=0) (n:=8) (c:=8) hb2 HD.out.2 (by omega)).mono ?_);rintro e w3 ⟨rfl,hF3⟩;have hQ3:=hF3.blk hQ2 (by simp);have qc3:=hQ3.cells;have qf3:=hQ3.free)
  go_ret
  have hFS : Fr [q] w3 (w3.setCell ⟨q,oo,none⟩ (.int .u64 x)):=Fr.setCell (by simp) Fr.refl
  exact ⟨rfl,hs.fr _ _ _ _ hR2 (Fr.trans (S:=[q]) (S':=[q]) (hF3.mono (by simp)) hFS (by simp)) (by simp;exact hqD),hQ3.set,Fr.trans (S:=q :: S) (S':=[q]) (Fr.trans (S:=q :: S) (S':=w.heap.size :: S) (hF1.mono (by simp)) hF2 (fun k hk hl=>by rcases List.mem_cons.1 hk with rfl|hk;omega;exact List.mem_cons_of_mem _ hk)) (Fr.trans (S:=[q]) (S':=[q]) (hF3.mono (by simp)) hFS (by simp)) (by simp)⟩
theorem checkS {w : World} {q wd L : Nat} {v1 v2 sl : Value} (hQ : Blk w q [v1,v2,sl] 457 (0,0)) (h8 : 8 ≤ wd) (hwd : wd ≤ 33554432) (hL : L < 1000000000) :
    Calls Tryz.prog 328 #[.pointer (some ⟨q,0,none⟩),.int .u32 wd,.int .u64 L,.int .u64 0] w fun e w'=>e = .returned .nilIface ∧ Blk w' q [.int .u32 wd,.int .u64 (L / wd : Nat),sl] 457 (0,0) ∧ Fr [q] w w':=by
  have hc:=hQ.cells
  have hf:=hQ.free
  have z1 : ¬ (wd : Int) < 8:=by omega
  have z2 : (wd : Int) ≤ 33554432:=by omega
  have wL : IntKind.u64.wrap (L : Int) = (L : Int):=by simp [IntKind.wrap,IntKind.bits,IntKind.signed];omega
  have wLi : IntKind.i64.wrap (L : Int) = (L : Int):=by simp [IntKind.wrap,IntKind.bits,IntKind.signed];omega
  have hLn : ¬ (L : Int) < 0:=by omega
  have wW : IntKind.u64.wrap (wd : Int) = (wd : Int):=by simp [IntKind.wrap,IntKind.bits,IntKind.signed];omega
  have z4 : ¬ (wd : Int) = 0:=by omega
  obtain ⟨Q,hQE⟩ : ∃ Q,Q = L / wd:=⟨_,rfl⟩
  have hQL : Q ≤ L:=by rw [hQE];exact Nat.div_le_self _ _
  have hdv : Int.tdiv (L : Int) (wd : Int) = (Q : Int):=by rw [hQE];rfl
  have wQ : IntKind.u64.wrap (Q : Int) = (Q : Int):=by simp [IntKind.wrap,IntKind.bits,IntKind.signed];omega
  rw [← hQE]
  clear hQE h8 hwd hL hQL
  go_enter Tryz.func328,Tryz.ntmps328
  go_wp2
  go_ret
  exact ⟨rfl,by exact blkP,by exact frP⟩
abbrev tSW : TypeId:=457
set_option maxRecDepth 1000000 in
set_option maxHeartbeats 12800000 in
theorem swUnmS (hs : Src T ra S D xs I f) {w : World} {i wd L q : Nat} {rest rows : List UInt8} (h : I w i) (hx : xs.drop i = Lib.leBytes 4 wd ++ (Lib.leBytes 8 L ++ (rows ++ rest))) (hL : rows.length = L) (h8 : 8 ≤ wd) (hwd : wd ≤ 10000) (hL0 : 0 < L) (hLb : L < 1000000)
    (hQ : Blk w q [.int .u32 0,.int .u64 0,.slice none 0 0] tSW (0,0)) (hqD : q ∉ D) :
    Calls Tryz.prog 309 #[.pointer (some ⟨q,0,none⟩),.iface T (.pointer (some ra))] w fun e w'=>e = .returned .nilIface ∧
      ∃ g,w.heap.size ≤ g ∧ g < w'.heap.size ∧ I w' (i + 4 + 8 + L) ∧ Blk w' q [.int .u32 wd,.int .u64 (L / wd : Nat),.slice (some ⟨g,0,none⟩) L L] tSW (0,0) ∧ Bs w' g 0 rows ∧ Fr (q :: S) w w':=by
  have hlt:=hs.lt _ _ h
  have hqS : q ∉ S:=fun hm=>hqD (hs.sub _ hm)
  have hql:=hQ.lt
  have hS : ∀ k ∈ S,k < w.heap.size:=fun k hk=>hlt k (hs.sub k hk)
  have hx8 : xs.drop (i + 4) = Lib.leBytes 8 L ++ (rows ++ rest):=by rw [← List.drop_drop,hx,List.drop_left' (Lib.leBytes_length _ _)]
  have hxr : xs.drop (i + 4 + 8) = rows ++ rest:=by rw [← List.drop_drop,hx8,List.drop_left' (Lib.leBytes_length _ _)]
  have hlen : i + 4 + 8 + L ≤ xs.length:=by have:=congrArg List.length hxr;simp at this;omega
  have hrt : (xs.drop (i + 4 + 8)).take L = rows:=by rw [hxr,List.take_left' hL]
  have h32:=fun (w1 : World) (q1 : Nat) (hR : I w1 i) (hB : Blk w1 q1 [.int .u32 0] 211 (0,0)) (hD : q1 ∉ D)=>read32S hs (oo:=0) hR hx (by omega) hB (by simp) hD
  have h64:=fun (w1 : World) (q1 : Nat) (hR : I w1 (i + 4)) (hB : Blk w1 q1 [.int .u64 0] 26 (0,0)) (hD : q1 ∉ D)=>read64S hs (oo:=0) hR hx8 (by omega) hB (by simp) hD
  have hLz : (L : Int) < 1000000:=by omega
  have HD:=Lib.hid (And.intro hrt (And.intro hL (And.intro hlen hL0)))
  have HX:=Lib.hid (And.intro h32 h64)
  have HQ:=Lib.hid (And.intro hQ (And.intro h hlt))
  clear hx hx8 hxr hrt hlen h32 h64 hQ h hlt hL
  go_enter Tryz.func309,Tryz.ntmps309
  go_wp2_with (first
    | go_at_call 292;refine (HX.out.1 _ w.heap.size (hs.fr _ _ [] _ HQ.out.2.1 (by exact frP) (by simp)) (Blk.newAt rfl) (fun hm=>Nat.lt_irrefl _ (HQ.out.2.2 _ hm))).mono ?_;rintro e w1 ⟨rfl,hR1,hB1,hF1⟩;have hF01 : Fr S w w1:=Fr.trans (S:=S) (by exact frP) hF1 (fun k hk hl=>by rcases List.mem_cons.1 hk with rfl|hk;omega;exact hk);have hs1:=hF01.size;have hlt1 : w.heap.size < w1.heap.size:=hB1.lt;have H1:=Lib.hid (And.intro hR1 (And.intro hB1 hF01));clear hR1 hB1 hF1 hF01
    | go_at_call 302;refine (HX.out.2 _ w1.heap.size (hs.fr _ _ [] _ H1.out.1 (by exact frP) (by simp)) (Blk.newAt rfl) (fun hm=>by have:=HQ.out.2.2 _ hm;omega)).mono ?_;rintro e w2 ⟨rfl,hR2,hB2,hF2⟩;have hF12 : Fr S w1 w2:=Fr.trans (S:=S) (by exact frP) hF2 (fun k hk hl=>by rcases List.mem_cons.1 hk with rfl|hk;omega;exact hk);have hs2:=hF12.size;have b32:=(hF12.blk H1.out.2.1 (fun hm=>by have:=hS _ hm;omega)).cells;have b64:=hB2.cells;have H2:=Lib.hid (And.intro hR2 (And.intro hB2 hF12));clear hR2 hB2 hF2 hF12
    | go_at_call 328;refine (checkS (H2.out.2.2.blk (H1.out.2.2.blk HQ.out.1 hqS) hqS) h8 (by omega) (by omega)).mono ?_;rintro e w3 ⟨rfl,hQ3,hF3⟩;have c64:=(hF3.blk H2.out.2.1 (by simp;omega)).cells;have hs3:=hF3.size;clear b32 b64;have H3:=Lib.hid (And.intro hQ3 hF3);clear hQ3 hF3
    | ((with_reducible refine list_makeSlice (fun K hK=>?_));  refine makeBk _ _ rfl _ _ _ _ L L w3.heap.size rfl rfl rfl rfl (by omega) (by omega) rfl (fun w4 hg4 hF4=>?_);have hs4:=hF4.size;have hg4l:=hg4.lt)
    | go_at_call 115;refine (readFullS hs (hs.fr _ _ [q] _ H2.out.1 (H3.out.2.trans hF4 (by simp)) (by simp;exact hqD)) w3.heap.size 0 L L _ _ hg4 (by simp) (by omega) (fun hm=>by have:=HQ.out.2.2 _ hm;omega) HD.out.2.2.1).mono ?_;rintro e w5 ⟨rfl,hR5,hB5,hF5⟩;have hQ5:=hF5.blk (hF4.blk H3.out.1 (by simp)) (by simp;exact ⟨by omega,hqS⟩);have qc5:=hQ5.cells;have qf5:=hQ5.free;have hb5 : Bs w5 w3.heap.size 0 rows:=Blk.bsAll hB5 (by rw [HD.out.1];simp [lay,by8_length,HD.out.2.1]);have hg5:=hB5.lt)
  go_ret
  have hFS : Fr [q] w5 (w5.setCell ⟨q,2,none⟩ (.slice (some ⟨w3.heap.size,0,none⟩) L L)):=Fr.setCell (by simp) Fr.refl
  have hF02 : Fr S w w2:=H1.out.2.2.trans H2.out.2.2 (fun k hk _=>hk)
  refine ⟨rfl,w3.heap.size,by omega,by simpa using hg5,hs.fr _ _ _ _ hR5 hFS (by simp;exact hqD),hQ5.set,hb5.fr hFS (by simp;omega),?_⟩
  refine Fr.trans (S:=q :: S) (S':=[q]) (Fr.trans (S:=q :: S) (S':=w3.heap.size :: S) (Fr.trans (S:=q :: S) (S':=[]) (Fr.trans (S:=q :: S) (S':=[q]) (hF02.mono (fun k hk=>List.mem_cons_of_mem _ hk)) H3.out.2 (by simp)) hF4 (by simp)) hF5 (fun k hk hl=>by rcases List.mem_cons.1 hk with rfl|hk;omega;exact List.mem_cons_of_mem _ hk)) hFS (by simp)
end
end Go.Proofs.Wx

namespace Go.Proofs.Wx
open Go Go.RowKit
/-- What a call that writes into the buffer may not touch: a block that is none of the buffer's. -/
theorem Wr.keep {p base : Nat} {w w' : World} {v v' : Value} {ys ys' : List UInt8} (h : Wr p base w v ys w' v' ys') {b : Nat} {cs : List Value} {T : TypeId} {fr : Nat × Nat} (hb : Blk w b cs T fr) (h1 : b ≠ p) (h2 : v.ownBlock ≠ some b) : Blk w' b cs T fr :=
  h.fr.blk hb (by simp;exact ⟨h1,h2⟩)
theorem Wr.keepB {p base : Nat} {w w' : World} {v v' : Value} {ys ys' : List UInt8} (h : Wr p base w v ys w' v' ys') {b o : Nat} {xs : List UInt8} (hb : Bs w b o xs) (h1 : b ≠ p) (h2 : v.ownBlock ≠ some b) : Bs w' b o xs :=
  hb.fr h.fr (by simp;exact ⟨h1,h2⟩)
theorem Wr.own_ne {p base : Nat} {w w' : World} {v v' : Value} {ys ys' : List UInt8} (h : Wr p base w v ys w' v' ys') {b : Nat} (hb : b < w.heap.size) (h2 : v.ownBlock ≠ some b) : v'.ownBlock ≠ some b:=by
  intro e
  rcases h.own with e1|⟨k,e1,hk⟩
  · exact h2 (e1 ▸ e)
  · rw [e] at e1;cases e1;omega
end Go.Proofs.Wx
