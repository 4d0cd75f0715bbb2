import Derived.Test.YtdokbceiganhdaaGreatDoorM1
import Derived.Test.YtdokbceiganhdaaGreatDoorM2
import Derived.Test.YtdokbceiganhdaaGreatDoorM3
set_option maxRecDepth 100000
set_option maxHeartbeats 1000000
set_option linter.unusedVariables false
set_option linter.unusedSimpArgs false
set_option linter.deprecated false
set_option linter.all false
set_option linter.unusedSectionVars false
namespace Go.Proofs.Wx
open Go Go.RowKit
abbrev oSlk22 : List (Nat × Cls):=[(0,.free),(1,.free),(2,.free),(3,.free),(4,.look),(5,.free),(6,.free),(7,.free),(8,.act),(9,.free),(10,.free),(11,.act)]
abbrev oSlk23 : List (Nat × Cls):=[(0,.free),(1,.free),(2,.free),(3,.look),(4,.free),(5,.free),(6,.free),(7,.free),(8,.act),(9,.free),(10,.free),(11,.free),(12,.free),(13,.free)]
abbrev oSlk24 : List (Nat × Cls):=[(0,.free),(1,.free),(2,.free),(3,.free),(4,.look),(5,.free),(6,.free),(7,.free),(8,.free),(9,.free),(10,.free),(11,.act),(12,.free),(13,.free),(14,.act)]
theorem rtsReadAtLeast {ea : Addr} {w : World} {q r sb : Nat} {xs : List UInt8} {i : Nat} (h : Rts w q r sb xs i)
    (pb po pl pc : Nat) (cs : List Value) (T : TypeId) (hp : Blk w pb cs T (0,0)) (hpl : po + pl ≤ cs.length) (hpc : pl < 1000000000000) (hpq : pb ≠ q) (hpr : pb ≠ r) (hps : pb ≠ sb) (hi : i + pl ≤ xs.length) (h0 : 0 < pl) (hG : Gl ea w) (hpg : 28 ≤ pb) :
    Calls Tryz.prog 136 #[.iface 363 (.pointer (some ⟨q,0,none⟩)),.slice (some ⟨pb,po,none⟩) pl pc,.int .i64 pl] w fun e w' =>
      e = .returned (.tuple #[.int .i64 pl,.nilIface]) ∧ Rts w' q r sb xs (i + pl) ∧ Blk w' pb (lay cs po ((xs.drop i).take pl)) T (0,0) ∧ Fr [q,r,pb] w w':=by
  have hc:=fun (w' : World) (hf : Fr [] w w')=>rtsRead (h.fr hf (by simp) (by simp) (by simp)) pb po pl pc cs T (hf.blk hp (by simp)) hpl hpc hpq hpr hps hi h0 (hG.fr hf (by simp)) hpg
  clear hi
  go_enter Tryz.func136,Tryz.ntmps136
  go_wp2_with (first
    | (with_reducible refine wp_loop_rounds 2 ?_);rw [rounds_succ]
    | (with_reducible rw [rounds_succ])
    | go_at_call 421;refine (hc _ (by exact frP)).mono ?_;rintro e w1 ⟨rfl,hR1,hB1,hF1⟩;replace hF1 : Fr [q,r,pb] w w1:=Fr.trans (S:=[q,r,pb]) (by exact frP) hF1 (by simp)
    | (refine wre 2 [(0,.look),(1,.free),(2,.free)] ?_)
    | (refine wre 5 [(0,.free),(1,.free),(2,.free),(3,.free),(4,.free),(5,.free),(6,.free),(7,.act),(8,.free),(9,.free),(10,.free),(11,.free),(12,.free)] ?_)
    | (with_reducible refine wEI ?_;(first|(refine wEN ?_;skip)|(refine wEF rfl (fun K hK=>?_);go_simp)|(refine wEL rfl rfl (fun K hK=>?_);go_simp)|(refine wER rfl (fun K hK=>?_);go_simp)|(refine wEM rfl (fun K hK=>?_);go_simp;try refine ⟨_,_,⟨rfl,rfl⟩,?_⟩)|(refine wEG rfl (fun K hK=>?_);go_simp)|(refine wEA rfl (fun K hK=>?_);go_simp))))
  go_ret2
  exact ⟨rfl,hR1,hB1,hF1⟩
/-- z is a SlickReaderStream over the scanner q over the bytes.Reader r. -/
structure Slk (w : World) (z q r sb : Nat) (xs : List UInt8) (i : Nat) : Prop where
  hz : ∃ (scr : List Value),scr.length = 32 ∧ Blk w z (.iface 363 (.pointer (some ⟨q,0,none⟩)) :: (scr ++ [.int .i64 i,.slice none 0 0,.bool false])) 370 (0,0)
  hs : Rts w q r sb xs i
  zq : z ≠ q
  zr : z ≠ r
  zs : z ≠ sb
  ge : 28 ≤ z ∧ 28 ≤ q
theorem Slk.fr {w w' : World} {z q r sb : Nat} {xs : List UInt8} {i : Nat} {S : List Nat} (h : Slk w z q r sb xs i) (hf : Fr S w w') (h0 : z ∉ S) (h1 : q ∉ S) (h2 : r ∉ S) (h3 : sb ∉ S) : Slk w' z q r sb xs i:=by
  obtain ⟨⟨scr,a1,hB⟩,hr,h4,h5,h6,h7⟩:=h
  exact ⟨⟨scr,a1,hf.blk hB h0⟩,hr.fr hf h1 h2 h3,h4,h5,h6,h7⟩
theorem slk_cells {w : World} {z : Nat} {a b c d : Value} {scr : List Value} {T : TypeId} (hl : scr.length = 32) (hB : Blk w z (a :: (scr ++ [b,c,d])) T (0,0)) :
    w.cell? ⟨z,0,none⟩ = some a ∧ w.cell? ⟨z,33,none⟩ = some b ∧ w.cell? ⟨z,34,none⟩ = some c ∧ w.cell? ⟨z,35,none⟩ = some d:=by
  refine ⟨by rw [hB.cells];rfl,?_,?_,?_⟩
  all_goals
    rw [hB.cells,List.getElem?_cons_succ,List.getElem?_append_right (by omega),hl];rfl
theorem slk_set {a b b' c d : Value} {scr : List Value} (hl : scr.length = 32) : (a :: (scr ++ [b,c,d])).set 33 b' = a :: (scr ++ [b',c,d]):=by
  rw [List.set_cons_succ,List.set_append_right _ _ (by omega),hl];rfl
theorem slkReadn1 {ea : Addr} {w : World} {z q r sb : Nat} {xs : List UInt8} {i : Nat} (h : Slk w z q r sb xs i) (hi : i < xs.length) (hG : Gl ea w) :
    Calls Tryz.prog 415 #[.pointer (some ⟨z,0,none⟩)] w fun e w' =>
      e = .returned (.tuple #[.int .u8 (xs[i].toNat : Nat),.nilIface]) ∧ Slk w' z q r sb xs (i + 1) ∧ Fr [z,q,r] w w':=by
  have h':=h
  obtain ⟨⟨scr,hl,hB⟩,hS,hzq,hzr,hzs,hg1,hg2⟩:=h
  have hxl : xs.length < 1000000000000:=by obtain ⟨a,b,c,d⟩:=hS.hr;exact d.2.2.2.2.1.1
  have hrd:=rtsReadByte hS hi hG hg2
  obtain ⟨c0,c1,c2,c3⟩:=slk_cells hl hB
  go_enter Tryz.func415,Tryz.ntmps415
  go_wp2_with (first
    | go_at_call 422;refine hrd.mono ?_;rintro e w1 ⟨rfl,hR1,hF1⟩;have hB1:=hF1.blk hB (by simp [hzq,hzr]);obtain ⟨d0,d1,d2,d3⟩:=slk_cells hl hB1;have hf1:=hB1.free;clear c0 c1 c2 c3)
  go_ret2
  refine ⟨rfl,⟨⟨scr,hl,?_⟩,hR1.fr (S:=[z]) (by exact frP) (by simp [Ne.symm hzq]) (by simp [Ne.symm hzr]) (by simp [Ne.symm hzs]),hzq,hzr,hzs,hg1,hg2⟩,?_⟩
  · exact Blk.conv (Blk.set hB1) (by rw [slk_set hl];simp)
  · refine Fr.setCell (by simp) ?_
    exact frP

theorem slkPartS {ea : Addr} {w : World} {z q r sb : Nat} {xs : List UInt8} {i n : Nat} (h : Slk w z q r sb xs i) (hi : i + n ≤ xs.length) (hG : Gl ea w) (h0 : 0 < n) (hn : n < 32) :
    Calls Tryz.prog 420 #[.pointer (some ⟨z,0,none⟩),.int .i64 n] w fun e w' =>
      e = .returned (.tuple #[.slice (some ⟨z,1,none⟩) n 32,.nilIface]) ∧ Slk w' z q r sb xs (i + n) ∧ Bs w' z 1 ((xs.drop i).take n) ∧ Fr [z,q,r] w w':=by
  obtain ⟨⟨scr,hl,hB⟩,hS,hzq,hzr,hzs,hg1,hg2⟩:=h
  have hxl : xs.length < 1000000000000:=by obtain ⟨a,b,c,d⟩:=hS.hr;exact d.2.2.2.2.1.1
  have hX : ((xs.drop i).take n).length = n:=by simp;omega
  have hrd:=fun (w' : World) (hf : Fr [] w w')=>rtsReadAtLeast (hS.fr hf (by simp) (by simp) (by simp)) z 1 n 32 _ _ (hf.blk hB (by simp)) (by simp;omega) (by omega) hzq hzr hzs hi h0 (hG.fr hf (by simp)) hg1
  generalize (xs.drop i).take n = X at *
  have hlay : lay (.iface 363 (.pointer (some ⟨q,0,none⟩)) :: (scr ++ [.int .i64 i,.slice none 0 0,.bool false])) 1 X = .iface 363 (.pointer (some ⟨q,0,none⟩)) :: ((by8 X ++ scr.drop n) ++ [.int .i64 i,.slice none 0 0,.bool false]):=by
    simp only [lay,hX]
    rw [show 1 + n = n + 1 by omega,List.drop_succ_cons,List.drop_append_of_le_length (by omega)]
    simp
  have hl2 : (by8 X ++ scr.drop n).length = 32:=by simp [by8_length,hX,hl];omega
  rw [hlay] at hrd
  obtain ⟨c0,c1,c2,c3⟩:=slk_cells hl hB
  have hpos : (0 : Int) < n:=by omega
  have hn1 : (n : Int) ≤ 32:=by omega
  have hn2 : 0 ≤ (n : Int):=by omega
  have hn3 : (n : Int) < 32:=by omega
  clear hlay
  go_enter Tryz.func420,Tryz.ntmps420
  go_wp2_with (first
    | go_at_call 136;refine (hrd _ (by exact frP)).mono ?_;rintro e w1 ⟨rfl,hR1,hB1,hF1⟩;obtain ⟨d0,d1,d2,d3⟩:=slk_cells hl2 hB1;have hf1:=hB1.free;clear c0 c1 c2 c3
    | (refine wre 8 oSlk22 ?_)
    | (refine wre 29 oSlk23 ?_)
    | (refine wre 32 oSlk24 ?_)
    | (with_reducible refine wEI ?_;(first|(refine wEN ?_;skip)|(refine wEF rfl (fun K hK=>?_);go_simp)|(refine wEL rfl rfl (fun K hK=>?_);go_simp)|(refine wER rfl (fun K hK=>?_);go_simp)|(refine wEM rfl (fun K hK=>?_);go_simp;try refine ⟨_,_,⟨rfl,rfl⟩,?_⟩)|(refine wEG rfl (fun K hK=>?_);go_simp)|(refine wEA rfl (fun K hK=>?_);go_simp))))
  go_ret2
  have hBz : Blk _ z (.iface 363 (.pointer (some ⟨q,0,none⟩)) :: ((by8 X ++ scr.drop n) ++ [.int .i64 (i + n : Nat),.slice none 0 0,.bool false])) _ _:=Blk.conv (Blk.set (o:=33) (v:=.int .i64 ((i : Int) + n)) hB1) (by rw [slk_set hl2];simp)
  refine ⟨rfl,⟨⟨_,hl2,hBz⟩,hR1.fr (S:=[z]) (by exact frP) (by simp [Ne.symm hzq]) (by simp [Ne.symm hzr]) (by simp [Ne.symm hzs]),hzq,hzr,hzs,hg1,hg2⟩,?_,?_⟩
  · exact Blk.bs (pre:=[.iface 363 (.pointer (some ⟨q,0,none⟩))]) (post:=scr.drop n ++ [.int .i64 (i + n : Nat),.slice none 0 0,.bool false]) hBz (by simp) rfl
  · refine Fr.setCell (by simp) ?_
    exact frP
theorem slkPartL {ea : Addr} {w : World} {z q r sb : Nat} {xs : List UInt8} {i n : Nat} (h : Slk w z q r sb xs i) (hi : i + n ≤ xs.length) (hG : Gl ea w) (hn : 32 ≤ n) (hn2 : n ≤ 4096) :
    Calls Tryz.prog 420 #[.pointer (some ⟨z,0,none⟩),.int .i64 n] w fun e w' =>
      ∃ b,e = .returned (.tuple #[.slice (some ⟨b,0,none⟩) n n,.nilIface]) ∧ Slk w' z q r sb xs (i + n) ∧ w.heap.size ≤ b ∧ Bs w' b 0 ((xs.drop i).take n) ∧ Fr [z,q,r] w w':=by
  obtain ⟨⟨scr,hl,hB⟩,hS,hzq,hzr,hzs,hg1,hg2⟩:=h
  have hxl : xs.length < 1000000000000:=by obtain ⟨a,b,c,d⟩:=hS.hr;exact d.2.2.2.2.1.1
  have hX : ((xs.drop i).take n).length = n:=by simp;omega
  have hlt:=hB.lt
  have hql : q < w.heap.size:=by obtain ⟨⟨l,s,b,h,_⟩,_⟩:=hS;exact h.lt
  have hrl:=hS.hr.lt
  have hrd:=fun (w' : World) (b : Nat) (hb : w.heap.size ≤ b) (hf : Fr [] w w') (hbb : Blk w' b (List.replicate n (.int .u8 0)) 5 (0,0))=>rtsReadAtLeast (hS.fr hf (by simp) (by simp) (by simp)) b 0 n n _ _ hbb (by simp) (by omega) (by omega) (by omega) (by omega) hi (by omega) (hG.fr hf (by simp)) (by omega)
  generalize (xs.drop i).take n = X at *
  have hlay : lay (List.replicate n (Value.int .u8 0)) 0 X = by8 X:=by simp [lay,hX]
  rw [hlay] at hrd
  obtain ⟨c0,c1,c2,c3⟩:=slk_cells hl hB
  have hpos : (0 : Int) < n:=by omega
  have hn1 : (n : Int) ≤ 4096:=by omega
  have hn3 : ¬ (n : Int) < 32:=by omega
  have hn4 : ¬ (4096 : Int) < n:=by omega
  have hn5 : ¬ (n : Int) = 0:=by omega
  have hgb:=hG.size
  clear hlay
  go_enter Tryz.func420,Tryz.ntmps420
  go_wp2_with (first
    | (with_reducible refine wp_loop_rounds 2 ?_);rw [rounds_succ]
    | (with_reducible rw [rounds_succ])
    | (with_reducible refine list_makeSlice (fun K hK=>?_);  refine makeB _ _ rfl _ _ _ _ 0 n rfl rfl rfl rfl (by omega) (by omega) ?_)
    | go_at_call 136;refine (hrd _ w.heap.size (Nat.le_refl _) (by exact frP) (by exact blkP)).mono ?_;rintro e w1 ⟨rfl,hR1,hB1,hF1⟩;have hZ1:=hF1.blk hB.alloc (by simp;omega);obtain ⟨d0,d1,d2,d3⟩:=slk_cells hl hZ1;have hf1:=hZ1.free;clear c0 c1 c2 c3
    | (refine wre 8 oSlk22 ?_)
    | (refine wre 29 oSlk23 ?_)
    | (refine wre 32 oSlk24 ?_)
    | (with_reducible refine wEI ?_;(first|(refine wEN ?_;skip)|(refine wEF rfl (fun K hK=>?_);go_simp)|(refine wEL rfl rfl (fun K hK=>?_);go_simp)|(refine wER rfl (fun K hK=>?_);go_simp)|(refine wEM rfl (fun K hK=>?_);go_simp;try refine ⟨_,_,⟨rfl,rfl⟩,?_⟩)|(refine wEG rfl (fun K hK=>?_);go_simp)|(refine wpE_actp rfl rfl (fun K hK=>?_);simp only [List.getElem_toArray,List.getElem_cons_succ,List.getElem_cons_zero];(first|(with_reducible refine op_makeSlice ?_;  refine makeB _ _ rfl _ _ _ _ 0 n rfl rfl rfl rfl (by omega) (by omega) ?_)))|(refine wEA rfl (fun K hK=>?_);go_simp))))
  go_ret2
  refine ⟨_,rfl,⟨⟨scr,hl,Blk.conv (Blk.set (o:=33) (v:=.int .i64 ((i : Int) + n)) hZ1) (by rw [slk_set hl];simp)⟩,hR1.fr (S:=[z]) (by exact frP) (by simp [Ne.symm hzq]) (by simp [Ne.symm hzr]) (by simp [Ne.symm hzs]),hzq,hzr,hzs,hg1,hg2⟩,Nat.le_refl _,?_,?_⟩
  · exact Bs.setNe (by simp;omega) (Blk.bs (pre:=[]) (post:=[]) hB1 (by simp) rfl)
  · exact Fr.setCell (by simp) (Fr.trans (S:=[z,q,r]) (by exact frP) hF1 (by simp))
/-- append of bytes to no slice: a new block. -/
theorem appNil {o : Oper} {a : Act} {K : Act → World → Prop} {Q : Exit → Act → World → Prop} {w : World} (s x : Operand)
    (ho : o.op = .call { callee:=.builtin .append,args:=#[s,x],argTypes:=#[76,76] })
    (hs : a.eval s = .slice none 0 0) (b so m c : Nat) (xs : List UInt8) (hx : a.eval x = .slice (some ⟨b,so,none⟩) m c) (hB : Bs w b so xs) (hm : xs.length = m) (h0 : 0 < m) (hb : m ≤ 1000000000000)
    (h : ∀ w' C,m ≤ C → C ≤ 9223372036854775807 → Bs w' w.heap.size 0 xs → Fr [] w w' → K (a.put o.dst (.slice (some ⟨w.heap.size,0,none⟩) m C)) w') : o.wp Tryz.prog a w K Q:=by
  obtain ⟨i,hi,hz,hsz,hby⟩:=info_parts u8_info
  have hr:=run_append_nil (P:=Tryz.prog) w 76 o.type 5 i (.int .u8 0) u8_slice hi hz ⟨b,so,none⟩ m c (by8 xs) (by rw [by8_length,hsz,hm];omega)
    (fun j v hv=>by
      have hj : j < xs.length:=by have:=(List.getElem?_eq_some_iff.1 hv).1;rwa [by8_length] at this
      rw [by8_at _ _ hj] at hv
      rw [← hv,Addr.add_lit];exact hB.cell j hj) h0 (by omega) (by rw [hby];omega)
  have hge:=grownCap_ge w m 0 5
  have hle:=grownCap_le_maxLen w m 0 5 (by unfold maxLen;omega)
  generalize grownCap w m 0 5 = C at *
  unfold Oper.wp execOp
  simp only [ho,resolve,invoke,builtin,Sem.run_bind,Sem.run_pure,Result.andThen_ok,List.map_toArray,List.map_cons,List.map_nil,hs,hx,hr]
  refine h _ C hge (by unfold maxLen at hle;omega) ?_ (Fr.alloc (Fr.drew Fr.refl))
  refine Blk.bs (pre:=[]) (post:=(Builtin.zeroCells (Value.int .u8 0).cells (C - m)).toList) (cs:=by8 xs ++ (Builtin.zeroCells (Value.int .u8 0).cells (C - m)).toList) (T:=5) (fr:=(0,0)) ?_ (by simp) rfl
  have : (by8 xs).toArray ++ Builtin.zeroCells (Value.int .u8 0).cells (C - m) = (by8 xs ++ (Builtin.zeroCells (Value.int .u8 0).cells (C - m)).toList).toArray:=by simp
  rw [this]
  exact Blk.new (w:=w.drew)

theorem slkReadn {ea : Addr} {w : World} {z q r sb : Nat} {xs : List UInt8} {i n : Nat} (h : Slk w z q r sb xs i) (hi : i + n ≤ xs.length) (hG : Gl ea w) (h0 : 0 < n) (hn2 : n ≤ 4096) :
    Calls Tryz.prog 414 #[.pointer (some ⟨z,0,none⟩),.int .i64 n] w fun e w' =>
      ∃ v b,e = .returned (.tuple #[v,.nilIface]) ∧ Slk w' z q r sb xs (i + n) ∧ w.heap.size ≤ b ∧ Sl w' v b ((xs.drop i).take n) ∧ Fr [z,q,r] w w':=by
  have hX : ((xs.drop i).take n).length = n:=by simp;omega
  have hlt : z < w.heap.size ∧ q < w.heap.size ∧ r < w.heap.size ∧ sb < w.heap.size:=by
    obtain ⟨⟨scr,hl,hB⟩,hS,_⟩:=h
    have hql : q < w.heap.size:=by obtain ⟨⟨l,s,b,h,_⟩,_⟩:=hS;exact h.lt
    exact ⟨hB.lt,hql,hS.hr.lt⟩
  rcases Nat.lt_or_ge n 32 with h32|h32
  · have hrd:=slkPartS h hi hG h0 h32
    generalize (xs.drop i).take n = X at *
    have hn3 : (n : Int) < 32:=by omega
    go_enter Tryz.func414,Tryz.ntmps414
    go_wp2_with (first
      | go_at_call 420;refine hrd.mono ?_;rintro e w1 ⟨rfl,hR1,hB1,hF1⟩
      | (with_reducible refine list_bi .append (fun K hK=>?_);  refine appNil _ _ rfl rfl z 1 n 32 X rfl hB1 hX h0 (by omega) (fun w2 C hC1 hC2 hB2 hF2=>?_)))
    go_ret2
    have hs:=hF1.size
    exact ⟨_,_,rfl,hR1.fr hF2 (by simp) (by simp) (by simp) (by simp),hs,⟨0,C,by rw [hX];rfl,by omega,by omega,hB2⟩,hF1.trans hF2 (by simp)⟩
  · have hrd:=slkPartL h hi hG h32 hn2
    generalize (xs.drop i).take n = X at *
    have hn3 : ¬ (n : Int) < 32:=by omega
    go_enter Tryz.func414,Tryz.ntmps414
    go_wp2_with (first
      | go_at_call 420;refine hrd.mono ?_;rintro e w1 ⟨b,rfl,hR1,hb1,hB1,hF1⟩)
    go_ret2
    exact ⟨_,_,rfl,hR1,hb1,⟨0,n,by rw [hX];rfl,by omega,by omega,hB1⟩,hF1⟩
theorem slkReadnzc {ea : Addr} {w : World} {z q r sb : Nat} {xs : List UInt8} {i n : Nat} (h : Slk w z q r sb xs i) (hi : i + n ≤ xs.length) (hG : Gl ea w) (h0 : 0 < n) (h32 : n < 32) :
    Calls Tryz.prog 416 #[.pointer (some ⟨z,0,none⟩),.int .i64 n] w fun e w' =>
      e = .returned (.tuple #[.slice (some ⟨z,1,none⟩) n 32,.nilIface]) ∧ Slk w' z q r sb xs (i + n) ∧ Bs w' z 1 ((xs.drop i).take n) ∧ Fr [z,q,r] w w':=by
  have hrd:=slkPartS h hi hG h0 h32
  generalize (xs.drop i).take n = X at *
  go_enter Tryz.func416,Tryz.ntmps416
  go_wp2_with (first
    | go_at_call 420;refine hrd.mono ?_;rintro e w1 ⟨rfl,hR1,hB1,hF1⟩)
  go_ret2
  exact ⟨rfl,hR1,hB1,hF1⟩
end Go.Proofs.Wx

namespace Go.Proofs.Wx
open Go Go.RowKit
abbrev oCid0 : List (Nat × Cls):=[(0,.look),(1,.free),(2,.free),(3,.free),(4,.free),(5,.act),(6,.free)]
abbrev oCid1 : List (Nat × Cls):=[(0,.free),(1,.read),(2,.free),(3,.free),(4,.act),(5,.free)]
abbrev oCid2 : List (Nat × Cls):=[(0,.free),(1,.free),(2,.free),(3,.free),(4,.read),(5,.free),(6,.free),(7,.act),(8,.free)]
theorem convBack {w : World} {b o c : Nat} {xs : List UInt8} (T : TypeId) (hT : T = 76 ∨ T = 262) (h : Bs w b o xs) (n : Nat) (hn : xs.length = n) :
    (convert T 9 (.slice (some ⟨b,o,none⟩) n c)).run Tryz.prog w = .ok (.string ⟨xs.toArray⟩) w:=by
  subst hn
  rcases hT with rfl|rfl
  all_goals exact run_convert_bytes_back w _ _ 5 _ _ xs (by kernel_rfl) (by kernel_rfl) (by kernel_rfl) (fun j hj=>by rw [Addr.add_lit];exact h.cell j hj)
abbrev cidV (c : CidM) : Value:=.agg #[.string ⟨c.bytes.toArray⟩]
theorem cidFromBytes0 {w : World} {v : Value} {b : Nat} {c : CidM} (h : Sl w v b c.bytes) (h0 : c.v = 0) (hk : c.code = 18) (hl : c.dig.length = 32) :
    Calls Tryz.prog 195 #[v] w fun e w'=>e = .returned (.tuple #[.int .i64 c.bytes.length,cidV c,.nilIface]) ∧ Fr [] w w':=by
  have hb:=CidM.bytes0 h0 hk hl
  have hmh : c.bytes = mhB 18 c.dig:=by unfold CidM.bytes;rw [if_pos h0,hk]
  have hln : c.bytes.length = 34:=by rw [hb];simp [hl]
  obtain ⟨o,cp,rfl,hl2,hcb,hB⟩:=h
  have hc0 : w.cell? ⟨b,o,none⟩ = some (.int .u8 18):=by have:=hB.cell 0 (by omega);simpa [hb] using this
  have hc1 : w.cell? ⟨b,o + 1,none⟩ = some (.int .u8 32):=by have:=hB.cell 1 (by omega);simpa [hb] using this
  have hlt:=hB.lt
  have hal:=fun (w' : World) (hf : Fr [] w w')=>mhCast (v:=.slice (some ⟨b,o,none⟩) 34 cp) (code:=18) (dig:=c.dig) (Sl.mk (hmh ▸ hB.fr hf (by simp)) (by rw [← hmh];exact hl2) (by rw [← hmh];exact hcb) (by rw [← hmh];exact hln)) (by omega) (by omega)
  have hcv:=fun (w' : World) (hf : Fr [] w w')=>convBack (c:=cp) 262 (.inr rfl) (hB.fr hf (by simp)) 34 hln
  rw [hln] at hl2 ⊢
  clear hb hmh
  have Hln:=Lib.hid hln
  clear hln hl hk h0
  have h34 : 34 ≤ cp:=hl2
  go_enter Tryz.func195,Tryz.ntmps195
  go_wp2_with (first
    | go_at_call 124;refine (hal _ (by exact frP)).mono ?_;rintro e w1 ⟨rfl,hF1⟩;have hZ:=hF1.blk (Blk.new (cs:=[_])) (by simp);have hzc:=hZ.cells;have hzf:=hZ.free;replace hF1 : Fr [] w w1:=Fr.trans (S:=[]) (by exact frP) hF1 (by simp);have hcv1:=hcv w1.drew hF1.drew
    | (refine wre 6 oCid0 ?_)
    | (refine wre 7 oCid1 ?_)
    | (refine wre 10 oCid0 ?_)
    | (refine wre 15 oCid0 ?_)
    | (refine wre 18 oCid0 ?_)
    | (refine wre 20 oCid2 ?_)
    | (with_reducible refine wEI ?_;(first|(refine wEN ?_;skip)|(refine wEF rfl (fun K hK=>?_);go_simp)|(refine wEL rfl rfl (fun K hK=>?_);go_simp)|(refine wER rfl (fun K hK=>?_);go_simp)|(refine wEM rfl (fun K hK=>?_);go_simp;try refine ⟨_,_,⟨rfl,rfl⟩,?_⟩)|(refine wEG rfl (fun K hK=>?_);go_simp)|(refine wEA rfl (fun K hK=>?_);go_simp))))
  refine bodyPost_ret (v:=.tuple #[.int .i64 34,cidV c,.nilIface]) (by simp [results,Tryz.results195,go_sem,hzc]) rfl ⟨rfl,?_⟩
  repeat (first|exact hF1|(with_reducible refine Fr.drew ?_)|(refine Fr.setCell (.inr (Nat.le_refl _)) ?_))
theorem cidFromBytes1 {w : World} {v : Value} {b : Nat} {c : CidM} (h : Sl w v b c.bytes) (h0 : c.v = 1) (hok : c.Ok) :
    Calls Tryz.prog 195 #[v] w fun e w'=>e = .returned (.tuple #[.int .i64 c.bytes.length,cidV c,.nilIface]) ∧ Fr [] w w':=by
  have hb:=CidM.bytes1 h0
  have hck : c.codec < 9223372036854775808:=by rcases hok.kind with ⟨h,_⟩|⟨_,h,_⟩ <;> omega
  have hcode:=hok.code_lt
  have hdl:=hok.len
  have hm2:=mhB_two c.code c.dig
  have hle:=hok.le
  have hp:=Lib.uvarint_pos c.codec
  have hln : c.bytes.length = 1 + (Lib.uvarint c.codec).length + (mhB c.code c.dig).length:=by rw [hb];simp;omega
  have hd1 : c.bytes.drop 1 = Lib.uvarint c.codec ++ mhB c.code c.dig:=by rw [hb];rfl
  have hd2 : c.bytes.drop (1 + (Lib.uvarint c.codec).length) = mhB c.code c.dig:=by rw [← List.drop_drop,hd1];simp
  have hb1 : c.bytes = Lib.uvarint 1 ++ (Lib.uvarint c.codec ++ mhB c.code c.dig):=by rw [hb,uv1];rfl
  obtain ⟨o,cp,rfl,hl2,hcb,hB⟩:=h
  have hc0 : w.cell? ⟨b,o,none⟩ = some (.int .u8 1):=by have:=hB.cell 0 (by omega);simpa [hb] using this
  have hlt:=hB.lt
  have hA:=fun (w' : World) (hf : Fr [] w w')=>fromUvarint (n:=1) (v:=.slice (some ⟨b,o,none⟩) c.bytes.length cp) (Sl.mk (hB.fr hf (by simp)) hl2 hcb rfl) (by omega) hb1
  have hC:=fun (w' : World) (hf : Fr [] w w')=>fromUvarint (n:=c.codec) (v:=.slice (some ⟨b,o + 1,none⟩) (c.bytes.length - 1) (cp - 1))
    (Sl.mk (hd1 ▸ (hB.fr hf (by simp)).drop 1) (by rw [← hd1];simp;omega) (by rw [← hd1];simp;omega) (by rw [← hd1];simp)) hck rfl
  have hD:=fun (w' : World) (hf : Fr [] w w')=>mhFromBytes (code:=c.code) (dig:=c.dig) (rest:=[]) (v:=.slice (some ⟨b,o + (1 + (Lib.uvarint c.codec).length),none⟩) (c.bytes.length - (1 + (Lib.uvarint c.codec).length)) (cp - (1 + (Lib.uvarint c.codec).length)))
    (Sl.mk (hd2 ▸ (hB.fr hf (by simp)).drop _) (by rw [← hd2];simp;omega) (by rw [← hd2];simp;omega) (by rw [← hd2];simp)) hcode (by simp) (by omega)
  have HL:=Lib.hid hln
  rw [uv1] at hA
  clear hb hb1 hd1 hd2 hln
  generalize (Lib.uvarint c.codec).length = k at *
  generalize (mhB c.code c.dig).length = M at *
  have hX:=HL.out
  have h1 : ¬ cp = 1:=by omega
  have h2 : ¬ cp = 1 + k:=by omega
  have h3 : 2 < c.bytes.length:=by omega
  have h4 : 1 + k ≤ c.bytes.length:=by omega
  have h5 : 1 + k + M ≤ c.bytes.length:=by omega
  have h6 : c.bytes.length ≤ cp:=hl2
  have h7 : c.bytes.length < 1000000:=by omega
  have hcv:=fun (w' : World) (hf : Fr [] w w')=>convBack (c:=cp) 76 (.inl rfl) (hB.fr hf (by simp)) ((1 : Int) + (k : Int) + (M : Int)).toNat (by omega)
  have HM : Hid (1 + k + M = c.bytes.length):=Lib.hid (by omega)
  clear hX hle
  go_enter Tryz.func195,Tryz.ntmps195
  go_wp2_with fail
  refine (hA _ (by exact frP)).mono ?_;rintro e w1 ⟨rfl,rfl⟩
  go_wp2_with fail
  refine (hC _ (by exact frP)).mono ?_;rintro e w1 ⟨rfl,rfl⟩
  go_wp2_with fail
  refine (hD _ (by exact frP)).mono ?_;rintro e w1 ⟨v1,rfl,hF1⟩;have hZ:=hF1.blk (Blk.new (cs:=[_])) (by simp);have hzc:=hZ.cells;have hzf:=hZ.free;replace hF1 : Fr [] w w1:=Fr.trans (S:=[]) (by exact frP) hF1 (by simp);have hcv1:=hcv w1.drew hF1.drew
  go_wp2_with (first
    | (refine wre 6 oCid0 ?_)
    | (refine wre 7 oCid1 ?_)
    | (refine wre 10 oCid0 ?_)
    | (refine wre 15 oCid0 ?_)
    | (refine wre 18 oCid0 ?_)
    | (refine wre 20 oCid2 ?_)
    | (with_reducible refine wEI ?_;(first|(refine wEN ?_;skip)|(refine wEF rfl (fun K hK=>?_);go_simp)|(refine wEL rfl rfl (fun K hK=>?_);go_simp)|(refine wER rfl (fun K hK=>?_);go_simp)|(refine wEM rfl (fun K hK=>?_);go_simp;try refine ⟨_,_,⟨rfl,rfl⟩,?_⟩)|(refine wEG rfl (fun K hK=>?_);go_simp)|(refine wEA rfl (fun K hK=>?_);go_simp))))
  have e : ((1 : Int) + (k : Int) + (M : Int)) = c.bytes.length:=by have:=HM.out;omega
  refine bodyPost_ret (v:=.tuple #[.int .i64 c.bytes.length,cidV c,.nilIface]) (by simp [results,Tryz.results195,go_sem,hzc,e]) rfl ⟨rfl,?_⟩
  repeat (first|exact hF1|(with_reducible refine Fr.drew ?_)|(refine Fr.setCell (.inr (Nat.le_refl _)) ?_))
/-- The bytes of an identifier, cast. -/
theorem cidFromBytes {w : World} {v : Value} {b : Nat} {c : CidM} (h : Sl w v b c.bytes) (hok : c.Ok) :
    Calls Tryz.prog 195 #[v] w fun e w'=>e = .returned (.tuple #[.int .i64 c.bytes.length,cidV c,.nilIface]) ∧ Fr [] w w':=by
  rcases hok.kind with ⟨h0,_,h1,h2⟩|⟨h0,_⟩
  · exact cidFromBytes0 h h0 h1 h2
  · exact cidFromBytes1 h h0 hok
theorem cidCast {w : World} {v : Value} {b : Nat} {c : CidM} (h : Sl w v b c.bytes) (hok : c.Ok) :
    Calls Tryz.prog 182 #[v] w fun e w'=>e = .returned (.tuple #[cidV c,.nilIface]) ∧ Fr [] w w':=by
  have hc:=fun (w' : World) (hf : Fr [] w w')=>cidFromBytes (h.fr hf (by simp)) hok
  obtain ⟨o,cp,rfl,hl2,hcb,hB⟩:=h
  have hlt:=hB.lt
  go_enter Tryz.func182,Tryz.ntmps182
  go_wp2_with (first
    | go_at_call 195;refine (hc _ (by exact frP)).mono ?_;rintro e w1 ⟨rfl,hF1⟩;have hZ:=hF1.blk (Blk.new (cs:=[_])) (by simp);have hzc:=hZ.cells;have hzf:=hZ.free;have hzl:=hZ.lt;replace hF1 : Fr [] w w1:=Fr.trans (S:=[]) (by exact frP) hF1 (by simp))
  refine bodyPost_ret (v:=.tuple #[cidV c,.nilIface]) (by simp [results,Tryz.results182,go_sem,hzc,hzl]) rfl ⟨rfl,?_⟩
  repeat (first|exact hF1|(with_reducible refine Fr.drew ?_)|(with_reducible refine Fr.alloc ?_)|(refine Fr.setCell (.inr (Nat.le_refl _)) ?_))
end Go.Proofs.Wx

namespace Go.Proofs.Wx
open Go Go.RowKit
abbrev oDec0 : List (Nat × Cls):=[(0,.look),(1,.free),(2,.free)]
theorem u8_and31 : ∀ b : Nat,b < 256 → bits .and .u8 (b : Int) 31 = ((b % 32 : Nat) : Int):=by
  decide +kernel
abbrev decC (z : Nat) (st : Value) (ph : Nat) (lf : Value) : List Value :=
  [.bool true,.bool false,.int .i64 0,.bool false,.bool false,.bool false,.bool false,.iface 362 (.pointer (some ⟨z,0,none⟩)),st,.int .u8 ph,lf]
/-- d is a Decoder over the stream z. -/
abbrev DB (w : World) (d z : Nat) (st : Value) (ph : Nat) (lf : Value) : Prop:=Blk w d (decC z st ph lf) 348 (0,0)
def loB (n : Nat) : Nat:=if n < 24 then n else 24
def exB (n : Nat) : List UInt8:=if n < 24 then [] else [UInt8.ofNat n]
theorem hdB_eq (M n : Nat) : hdB M n = UInt8.ofNat (M * 32 + loB n) :: exB n:=by
  unfold hdB loB exB;split <;> rfl
theorem decodeUint {ea : Addr} {w : World} {d z q r sb : Nat} {st lf : Value} {ph : Nat} {xs rest : List UInt8} {i M n : Nat} (hD : DB w d z st ph lf) (h : Slk w z q r sb xs i) (hG : Gl ea w) (hdz : d ≠ z) (hdq : d ≠ q) (hdr : d ≠ r) (hx : xs.drop i = exB n ++ rest) (hM : M < 8) (hn : n < 256) :
    Calls Tryz.prog 212 #[.pointer (some ⟨d,0,none⟩),.int .u8 (M * 32 + loB n : Nat)] w fun e w' =>
      e = .returned (.tuple #[.int .u64 n,.nilIface]) ∧ Slk w' z q r sb xs (i + (exB n).length) ∧ Fr [z,q,r] w w':=by
  have hc:=hD.cells
  rcases Nat.lt_or_ge n 24 with h24|h24
  · have e1 : loB n = n:=if_pos h24
    have e2 : exB n = []:=if_pos h24
    have hv:=u8_and31 (M * 32 + n) (by omega)
    rw [show (M * 32 + n) % 32 = n by omega] at hv
    rw [e1,e2]
    generalize M * 32 + n = m at *
    have hn1 : (n : Int) ≤ 23:=by omega
    go_enter Tryz.func212,Tryz.ntmps212
    go_wp2_with (first
      | (refine wre 11 oDec0 ?_)
      | (refine wre 19 oDec0 ?_)
      | (refine wre 27 oDec0 ?_)
      | (refine wre 35 oDec0 ?_)
      | (with_reducible refine wEI ?_;(first|(refine wEN ?_;skip)|(refine wEF rfl (fun K hK=>?_);go_simp)|(refine wEL rfl rfl (fun K hK=>?_);go_simp)|(refine wER rfl (fun K hK=>?_);go_simp)|(refine wEM rfl (fun K hK=>?_);go_simp;try refine ⟨_,_,⟨rfl,rfl⟩,?_⟩)|(refine wEG rfl (fun K hK=>?_);go_simp)|(refine wEA rfl (fun K hK=>?_);go_simp))))
    go_ret2
    exact ⟨rfl,h,Fr.refl⟩
  · have e1 : loB n = 24:=if_neg (by omega)
    have e2 : exB n = [UInt8.ofNat n]:=if_neg (by omega)
    have hv:=u8_and31 (M * 32 + 24) (by omega)
    rw [show (M * 32 + 24) % 32 = 24 by omega] at hv
    rw [e2] at hx
    have hi : i < xs.length:=by have:=congrArg List.length hx;simp at this;omega
    have hxi : xs[i].toNat = n:=by
      rw [List.drop_eq_getElem_cons hi] at hx
      simp only [List.cons_append,List.nil_append,List.cons.injEq] at hx
      rw [hx.1];simp;omega
    have hrd:=slkReadn1 h hi hG
    rw [hxi] at hrd
    rw [e1,e2]
    clear hx hxi e1 e2
    generalize M * 32 + 24 = m at *
    have hzq:=h.zq
    go_enter Tryz.func212,Tryz.ntmps212
    go_wp2_with (first
      | go_at_call 415;refine hrd.mono ?_;rintro e w1 ⟨rfl,hR1,hF1⟩;have hD1:=hF1.blk hD (by simp [hdz,hdq,hdr]);have hc1:=hD1.cells;clear hc
      | (refine wre 11 oDec0 ?_)
      | (refine wre 19 oDec0 ?_)
      | (refine wre 27 oDec0 ?_)
      | (refine wre 35 oDec0 ?_)
      | (with_reducible refine wEI ?_;(first|(refine wEN ?_;skip)|(refine wEF rfl (fun K hK=>?_);go_simp)|(refine wEL rfl rfl (fun K hK=>?_);go_simp)|(refine wER rfl (fun K hK=>?_);go_simp)|(refine wEM rfl (fun K hK=>?_);go_simp;try refine ⟨_,_,⟨rfl,rfl⟩,?_⟩)|(refine wEG rfl (fun K hK=>?_);go_simp)|(refine wEA rfl (fun K hK=>?_);go_simp))))
    go_ret2
    exact ⟨rfl,hR1,hF1⟩
theorem decodeLen {ea : Addr} {w : World} {d z q r sb : Nat} {st lf : Value} {ph : Nat} {xs rest : List UInt8} {i M n : Nat} (hD : DB w d z st ph lf) (h : Slk w z q r sb xs i) (hG : Gl ea w) (hdz : d ≠ z) (hdq : d ≠ q) (hdr : d ≠ r) (hx : xs.drop i = exB n ++ rest) (hM : M < 8) (hn : n < 256) :
    Calls Tryz.prog 216 #[.pointer (some ⟨d,0,none⟩),.int .u8 (M * 32 + loB n : Nat)] w fun e w' =>
      e = .returned (.tuple #[.int .i64 n,.nilIface]) ∧ Slk w' z q r sb xs (i + (exB n).length) ∧ Fr [z,q,r] w w':=by
  have hu:=decodeUint hD h hG hdz hdq hdr hx hM hn
  generalize M * 32 + loB n = m at *
  generalize (exB n).length = k at *
  have hn1 : (n : Int) < 256:=by omega
  go_enter Tryz.func216,Tryz.ntmps216
  go_wp2_with (first
    | go_at_call 212;refine hu.mono ?_;rintro e w1 ⟨rfl,hR1,hF1⟩)
  go_ret2
  exact ⟨rfl,hR1,hF1⟩
theorem exB_drop {xs rest : List UInt8} {i n : Nat} (hx : xs.drop i = exB n ++ rest) : xs.drop (i + (exB n).length) = rest:=by
  rw [← List.drop_drop,hx];simp
theorem decodeBytes {ea : Addr} {w : World} {d z q r sb : Nat} {st lf : Value} {ph : Nat} {xs rest : List UInt8} {i M n : Nat} (hD : DB w d z st ph lf) (h : Slk w z q r sb xs i) (hG : Gl ea w) (hdz : d ≠ z) (hdq : d ≠ q) (hdr : d ≠ r) (hx : xs.drop i = exB n ++ rest) (hM : M < 8) (hn : n < 256) (h0 : 0 < n) (hl : n ≤ rest.length) :
    Calls Tryz.prog 214 #[.pointer (some ⟨d,0,none⟩),.int .u8 (M * 32 + loB n : Nat)] w fun e w' =>
      ∃ v b,e = .returned (.tuple #[v,.nilIface]) ∧ Slk w' z q r sb xs (i + (exB n).length + n) ∧ w.heap.size ≤ b ∧ Sl w' v b (rest.take n) ∧ Fr [z,q,r] w w':=by
  have hu:=decodeLen hD h hG hdz hdq hdr hx hM hn
  have hd : xs.drop (i + (exB n).length) = rest:=exB_drop hx
  have hle : i + (exB n).length + n ≤ xs.length:=by have:=congrArg List.length hd;simp at this;omega
  have hr:=fun (w' : World) (hS : Slk w' z q r sb xs (i + (exB n).length)) (hG : Gl ea w')=>slkReadn hS hle hG h0 (by omega)
  rw [hd] at hr
  clear hx hd hle
  have hge:=(⟨h.hs.hr.ge,h.ge⟩ : _ ∧ _)
  generalize M * 32 + loB n = m at *
  generalize (exB n).length = k at *
  generalize rest.take n = X at *
  have hn1 : (n : Int) < 256:=by omega
  go_enter Tryz.func214,Tryz.ntmps214
  go_wp2_with (first
    | go_at_call 216;refine hu.mono ?_;rintro e w1 ⟨rfl,hR1,hF1⟩;have hD1:=hF1.blk hD (by simp [hdz,hdq,hdr]);have hc1:=hD1.cells
    | go_at_call 414;refine (hr _ hR1 (hG.fr hF1 (by simp;omega))).mono ?_;rintro e w2 ⟨v,b,rfl,hR2,hb2,hS2,hF2⟩)
  go_ret2
  have hs1:=hF1.size
  exact ⟨_,_,rfl,hR2,by omega,hS2,hF1.trans hF2 (by simp)⟩
theorem decodeString {ea : Addr} {w : World} {d z q r sb : Nat} {st lf : Value} {ph : Nat} {xs rest : List UInt8} {i M n : Nat} (hD : DB w d z st ph lf) (h : Slk w z q r sb xs i) (hG : Gl ea w) (hdz : d ≠ z) (hdq : d ≠ q) (hdr : d ≠ r) (hx : xs.drop i = exB n ++ rest) (hM : M < 8) (hn : n < 32) (h0 : 0 < n) (hl : n ≤ rest.length) :
    Calls Tryz.prog 215 #[.pointer (some ⟨d,0,none⟩),.int .u8 (M * 32 + loB n : Nat)] w fun e w' =>
      e = .returned (.tuple #[.string ⟨(rest.take n).toArray⟩,.nilIface]) ∧ Slk w' z q r sb xs (i + (exB n).length + n) ∧ Fr [z,q,r] w w':=by
  have hu:=decodeLen hD h hG hdz hdq hdr hx hM (by omega)
  have hd : xs.drop (i + (exB n).length) = rest:=exB_drop hx
  have hle : i + (exB n).length + n ≤ xs.length:=by have:=congrArg List.length hd;simp at this;omega
  have hr:=fun (w' : World) (hS : Slk w' z q r sb xs (i + (exB n).length)) (hG : Gl ea w')=>slkReadnzc hS hle hG h0 hn
  have hX : (rest.take n).length = n:=by simp;omega
  rw [hd] at hr
  clear hx hd hle
  have hge:=(⟨h.hs.hr.ge,h.ge⟩ : _ ∧ _)
  generalize M * 32 + loB n = m at *
  generalize (exB n).length = k at *
  generalize rest.take n = X at *
  have hn1 : (n : Int) < 32:=by omega
  go_enter Tryz.func215,Tryz.ntmps215
  go_wp2_with (first
    | go_at_call 216;refine hu.mono ?_;rintro e w1 ⟨rfl,hR1,hF1⟩;have hD1:=hF1.blk hD (by simp [hdz,hdq,hdr]);have hc1:=hD1.cells
    | go_at_call 416;refine (hr _ hR1 (hG.fr hF1 (by simp;omega))).mono ?_;rintro e w2 ⟨rfl,hR2,hB2,hF2⟩;have hcv:=convBack (c:=32) 76 (.inl rfl) hB2 n hX)
  go_ret2
  exact ⟨rfl,hR2,hF1.trans hF2 (by simp)⟩
end Go.Proofs.Wx
