import Derived.Test.YtdokbceiganhdaaGreatDoorM4
set_option maxRecDepth 100000
set_option maxHeartbeats 1000000
set_option linter.unusedVariables false
set_option linter.unusedSimpArgs false
set_option linter.deprecated false
set_option linter.all false
set_option linter.unusedSectionVars false
namespace Go.Proofs.Wx
open Go Go.RowKit
abbrev oDec21 : List (Nat × Cls):=[(0,.look),(1,.free),(2,.free)]
/-- append of one element that fits. -/
theorem appOne {o : Oper} {a : Act} {K : Act → World → Prop} {Q : Exit → Act → World → Prop} {w : World} (S E : TypeId) (hS : Tryz.prog.underlying S = some (.slice E)) (hi : (Tryz.prog.info? E).map (·.size) = some 1) (s x : Operand)
    (ho : o.op = .call { callee:=.builtin .append,args:=#[s,x],argTypes:=#[S,S] })
    (g n cap : Nat) (cs : List Value) (hg : Blk w g cs E (0,0)) (hs : a.eval s = .slice (some ⟨g,0,none⟩) n cap)
    (ab ao c : Nat) (v : Value) (hx : a.eval x = .slice (some ⟨ab,ao,none⟩) 1 c) (hv : w.cell? ⟨ab,ao,none⟩ = some v) (h1 : v.oneCell' = true) (hroom : n + 1 ≤ cap) (hfit : n + 1 ≤ cs.length)
    (h : ∀ w',Blk w' g (cs.set n v) E (0,0) → Fr [g] w w' → K (a.put o.dst (.slice (some ⟨g,0,none⟩) (n + 1) cap)) w') : o.wp Tryz.prog a w K Q:=by
  obtain ⟨i,hi,hsz⟩:=Option.map_eq_some_iff.1 hi
  have hr:=run_append_room (P:=Tryz.prog) w S o.type E i hS hi g n cap cs.toArray hg ⟨ab,ao,none⟩ 1 c [v] (by simp [hsz])
    (fun j u hu=>by
      obtain ⟨rfl,rfl⟩ : j = 0 ∧ v = u:=by cases j with|zero=>simpa using hu|succ j=>simp at hu
      rw [Addr.add_lit,Nat.add_zero];exact hv) (by simpa using h1) hroom (by simp [hsz];omega)
  rw [hsz,Nat.mul_one] at hr
  unfold Oper.wp execOp
  simp only [ho,resolve,invoke,builtin,Sem.run_bind,Sem.run_pure,Result.andThen_ok,List.map_toArray,List.map_cons,List.map_nil,hs,hx,hr]
  have:=h _ (Blk.setRow (cs':=cs.set n v) hg) (Fr.setRow (.inl (by simp)) Fr.refl)
  rw [List.set_eq_take_append_cons_drop,if_pos (by omega)] at this
  simpa [Oper.upon] using this
theorem ph_slice : Tryz.prog.underlying 345 = some (.slice 346):=by kernel_rfl
theorem ph_size : (Tryz.prog.info? 346).map (·.size) = some 1:=by kernel_rfl
theorem int_slice : Tryz.prog.underlying 53 = some (.slice 3):=by kernel_rfl
theorem int_size : (Tryz.prog.info? 3).map (·.size) = some 1:=by kernel_rfl
theorem pushPhase {w : World} {d z sk n ph : Nat} {lf : Value} {cs : List Value} (hD : DB w d z (.slice (some ⟨sk,0,none⟩) n 10) ph lf) (hs : Blk w sk cs 346 (0,0)) (hl : cs.length = 10) (hn : n < 10) (hne : d ≠ sk) (p : Nat) :
    Calls Tryz.prog 211 #[.pointer (some ⟨d,0,none⟩),.int .u8 p] w fun e w' =>
      e = .returned (.tuple #[]) ∧ DB w' d z (.slice (some ⟨sk,0,none⟩) (n + 1) 10) p lf ∧ Blk w' sk (cs.set n (.int .u8 ph)) 346 (0,0) ∧ Fr [d,sk] w w':=by
  have hc:=hD.cells
  have hf:=hD.free
  have hsl:=hs.lt
  have hdl:=hD.lt
  go_enter Tryz.func211,Tryz.ntmps211
  go_wp2_with (first
    | (with_reducible refine list_bi .append (fun K hK=>?_);  refine appOne _ _ ph_slice ph_size _ _ rfl sk n 10 cs (by exact blkP) rfl _ _ _ (.int .u8 ph) rfl (by simp) rfl (by omega) (by omega) (fun w1 hB1 hF1=>?_);have hD1:=hF1.blk (b:=d) (by exact blkP) (by simp [hne]);have hc1:=hD1.cells;have hf1:=hD1.free;replace hF1 : Fr [d,sk] w w1:=Fr.trans (S:=[d,sk]) (by exact frP) hF1 (by simp);clear hc hf)
    | (refine wre 0 [(0,.free),(1,.free),(2,.free),(3,.free),(4,.look),(5,.free),(6,.free),(7,.free),(8,.look),(9,.make),(10,.act),(11,.free),(12,.free),(13,.act)] ?_)
    | (with_reducible refine wEI ?_;(first|(refine wEN ?_;skip)|(refine wEF rfl (fun K hK=>?_);go_simp)|(refine wEL rfl rfl (fun K hK=>?_);go_simp)|(refine wER rfl (fun K hK=>?_);go_simp)|(refine wEM rfl (fun K hK=>?_);go_simp;try refine ⟨_,_,⟨rfl,rfl⟩,?_⟩)|(refine wEG rfl (fun K hK=>?_);go_simp)|(refine wpE_actp rfl rfl (fun K hK=>?_);simp only [List.getElem_toArray,List.getElem_cons_succ,List.getElem_cons_zero];(first|(with_reducible refine op_bi .append ?_;  refine appOne _ _ ph_slice ph_size _ _ rfl sk n 10 cs (by exact blkP) rfl _ _ _ (.int .u8 ph) rfl (by simp) rfl (by omega) (by omega) (fun w1 hB1 hF1=>?_);have hD1:=hF1.blk (b:=d) (by exact blkP) (by simp [hne]);have hc1:=hD1.cells;have hf1:=hD1.free;replace hF1 : Fr [d,sk] w w1:=Fr.trans (S:=[d,sk]) (by exact frP) hF1 (by simp);clear hc hf)))|(refine wEA rfl (fun K hK=>?_);go_simp))))
  go_end0
  refine ⟨rfl,?_,?_,?_⟩
  · exact blkP
  · exact blkP
  · exact frP

/-- d is a Decoder that stands at i of xs, in a phase; cs, cl hold its two stacks. -/
structure Dec (w : World) (d z q r sb sk lf : Nat) (xs : List UInt8) (i : Nat) (cs : List Value) (n ph : Nat) (cl : List Value) (m : Nat) : Prop where
  hd : DB w d z (.slice (some ⟨sk,0,none⟩) n 10) ph (.slice (some ⟨lf,0,none⟩) m 10)
  hs : Slk w z q r sb xs i
  hk : Blk w sk cs 346 (0,0)
  hl : Blk w lf cl 3 (0,0)
  lk : cs.length = 10
  ll : cl.length = 10
  dn : d ≠ z ∧ d ≠ q ∧ d ≠ r ∧ d ≠ sb ∧ d ≠ sk ∧ d ≠ lf
  sn : sk ≠ z ∧ sk ≠ q ∧ sk ≠ r ∧ sk ≠ sb ∧ sk ≠ lf
  ln : lf ≠ z ∧ lf ≠ q ∧ lf ≠ r ∧ lf ≠ sb
  ge : 28 ≤ d ∧ 28 ≤ sk ∧ 28 ≤ lf
/-- t is none of the decoder's blocks. -/
def Off (t d z q r sb sk lf : Nat) : Prop:=t ≠ d ∧ t ≠ z ∧ t ≠ q ∧ t ≠ r ∧ t ≠ sb ∧ t ≠ sk ∧ t ≠ lf ∧ 28 ≤ t
section
variable {w w' : World} {d z q r sb sk lf : Nat} {xs : List UInt8} {i : Nat} {cs : List Value} {n ph : Nat} {cl : List Value} {m : Nat}
theorem Dec.fr {S : List Nat} (h : Dec w d z q r sb sk lf xs i cs n ph cl m) (hf : Fr S w w') (h1 : ∀ k ∈ S,k ≠ d ∧ k ≠ z ∧ k ≠ q ∧ k ≠ r ∧ k ≠ sb ∧ k ≠ sk ∧ k ≠ lf) : Dec w' d z q r sb sk lf xs i cs n ph cl m:=by
  obtain ⟨hd,hs,hk,hl,a1,a2,a3,a4,a5,a6⟩:=h
  have o : ∀ x,(x = d ∨ x = z ∨ x = q ∨ x = r ∨ x = sb ∨ x = sk ∨ x = lf) → x ∉ S:=fun x hx hm=>by have:=h1 x hm;omega
  exact ⟨hf.blk hd (o _ (by simp)),hs.fr hf (o _ (by simp)) (o _ (by simp)) (o _ (by simp)) (o _ (by simp)),hf.blk hk (o _ (by simp)),hf.blk hl (o _ (by simp)),a1,a2,a3,a4,a5,a6⟩
/-- What reads of the stream leaves. -/
theorem Dec.read {j : Nat} (h : Dec w d z q r sb sk lf xs i cs n ph cl m) (hs : Slk w' z q r sb xs j) (hf : Fr [z,q,r] w w') : Dec w' d z q r sb sk lf xs j cs n ph cl m:=by
  obtain ⟨hd,_,hk,hl,a,b,e,f,g,l⟩:=h
  exact ⟨hf.blk hd (by simp [e]),hs,hf.blk hk (by simp [f]),hf.blk hl (by simp [g]),a,b,e,f,g,l⟩
end
abbrev tk (fz : Value) (ty len : Nat) (str bs : Value) (u : Nat) (tg : Bool) (tag : Nat) : List Value :=
  [.int .u8 ty,.int .i64 len,str,bs,.bool false,.int .i64 0,.int .u64 u,fz,.bool tg,.int .i64 tag]
theorem loB_le (n : Nat) : loB n ≤ 24:=by unfold loB;split <;> omega
theorem hlpBytes {ea : Addr} {w : World} {d z q r sb sk lf t : Nat} {xs rest : List UInt8} {i k : Nat} {cs : List Value} {n ph : Nat} {cl : List Value} {m : Nat} {fz str bs : Value} {ty len u tag : Nat} {tg : Bool}
    (h : Dec w d z q r sb sk lf xs i cs n ph cl m) (ht : Blk w t (tk fz ty len str bs u tg tag) 312 (0,0)) (ho : Off t d z q r sb sk lf) (hG : Gl ea w)
    (hx : xs.drop i = exB k ++ rest) (hk : k < 256) (h0 : 0 < k) (hl : k ≤ rest.length) :
    Calls Tryz.prog 194 #[.pointer (some ⟨d,0,none⟩),.int .u8 (2 * 32 + loB k : Nat),.pointer (some ⟨t,0,none⟩)] w fun e w' =>
      ∃ v b,e = .returned (.tuple #[.bool true,.nilIface]) ∧ Dec w' d z q r sb sk lf xs (i + (exB k).length + k) cs n ph cl m ∧ w.heap.size ≤ b ∧ Sl w' v b (rest.take k) ∧ Blk w' t (tk fz 120 len str v u tg tag) 312 (0,0) ∧ Fr [z,q,r,t] w w':=by
  obtain ⟨o1,o2,o3,o4,o5,o6,o7,o8⟩:=ho
  have hge:=(⟨h.hs.hs.hr.ge,h.hs.ge⟩ : _ ∧ _)
  have hrd:=fun (w' : World) (hf : Fr [t] w w')=>decodeBytes (M:=2) (hf.blk h.hd (by simp [Ne.symm o1])) (h.hs.fr hf (by simp [Ne.symm o2]) (by simp [Ne.symm o3]) (by simp [Ne.symm o4]) (by simp [Ne.symm o5])) (hG.fr hf (by simp;omega)) h.dn.1 h.dn.2.1 h.dn.2.2.1 hx (by omega) hk h0 hl
  have hlo:=loB_le k
  have hm1 : (64 : Int) ≤ ((2 * 32 + loB k : Nat) : Int):=by omega
  have hm2 : ((2 * 32 + loB k : Nat) : Int) ≤ 88:=by omega
  clear hlo hx
  generalize 2 * 32 + loB k = mb at *
  generalize i + (exB k).length + k = j at *
  generalize rest.take k = X at *
  have hc:=ht.cells
  have hf:=ht.free
  go_enter Tryz.func194,Tryz.ntmps194
  go_wp2_with (first
    | go_at_call 214;refine (hrd _ (by exact frP)).mono ?_;rintro e w1 ⟨v,b,rfl,hR1,hb1,hS1,hF1⟩;have hSv:=hS1;obtain ⟨ov,cv,rfl,hl1,hcb1,hB1⟩:=hS1;have hT1:=hF1.blk (b:=t) (by exact blkP) (by simp [o2,o3,o4]);have hc1:=hT1.cells;have hf1:=hT1.free;clear hc hf
    | (refine wre 66 oDec21 ?_)
    | (refine wre 72 oDec21 ?_)
    | (refine wre 78 oDec21 ?_)
    | (refine wre 84 oDec21 ?_)
    | (refine wre 91 oDec21 ?_)
    | (with_reducible refine wEI ?_;(first|(refine wEN ?_;skip)|(refine wEF rfl (fun K hK=>?_);go_simp)|(refine wEL rfl rfl (fun K hK=>?_);go_simp)|(refine wER rfl (fun K hK=>?_);go_simp)|(refine wEM rfl (fun K hK=>?_);go_simp;try refine ⟨_,_,⟨rfl,rfl⟩,?_⟩)|(refine wEG rfl (fun K hK=>?_);go_simp)|(refine wEA rfl (fun K hK=>?_);go_simp))))
  go_ret2
  have hb2 : w.heap.size ≤ b:=by simpa [World.setCell] using hb1
  have hbt : b ≠ t:=by have:=ht.lt;omega
  have hD1:=(h.fr (S:=[t]) (w':=w.setCell ⟨t,0,none⟩ (.int .u8 120)) (by exact frP) (by simp [o1,o2,o3,o4,o5,o6,o7])).read hR1 hF1
  refine ⟨_,b,rfl,hD1.fr (S:=[t]) (by exact frP) (by simp [o1,o2,o3,o4,o5,o6,o7]),hb2,hSv.fr (S:=[t]) (by exact frP) (by simp [hbt]),?_,?_⟩
  · exact blkP
  · exact Fr.setCell (by simp) (Fr.trans (S:=[z,q,r,t]) (by exact frP) hF1 (by simp))

theorem hlpUint {ea : Addr} {w : World} {d z q r sb sk lf t : Nat} {xs rest : List UInt8} {i k : Nat} {cs : List Value} {n ph : Nat} {cl : List Value} {m : Nat} {fz str bs : Value} {ty len u tag : Nat} {tg : Bool}
    (h : Dec w d z q r sb sk lf xs i cs n ph cl m) (ht : Blk w t (tk fz ty len str bs u tg tag) 312 (0,0)) (ho : Off t d z q r sb sk lf) (hG : Gl ea w)
    (hx : xs.drop i = exB k ++ rest) (hk : k < 256) :
    Calls Tryz.prog 194 #[.pointer (some ⟨d,0,none⟩),.int .u8 (0 * 32 + loB k : Nat),.pointer (some ⟨t,0,none⟩)] w fun e w' =>
      e = .returned (.tuple #[.bool true,.nilIface]) ∧ Dec w' d z q r sb sk lf xs (i + (exB k).length) cs n ph cl m ∧ Blk w' t (tk fz 117 len str bs k tg tag) 312 (0,0) ∧ Fr [z,q,r,t] w w':=by
  obtain ⟨o1,o2,o3,o4,o5,o6,o7,o8⟩:=ho
  have hge:=(⟨h.hs.hs.hr.ge,h.hs.ge⟩ : _ ∧ _)
  have hrd:=fun (w' : World) (hf : Fr [t] w w')=>decodeUint (M:=0) (hf.blk h.hd (by simp [Ne.symm o1])) (h.hs.fr hf (by simp [Ne.symm o2]) (by simp [Ne.symm o3]) (by simp [Ne.symm o4]) (by simp [Ne.symm o5])) (hG.fr hf (by simp;omega)) h.dn.1 h.dn.2.1 h.dn.2.2.1 hx (by omega) hk
  have hlo:=loB_le k
  have hm2 : ((0 * 32 + loB k : Nat) : Int) ≤ 24:=by omega
  clear hlo hx
  generalize 0 * 32 + loB k = mb at *
  generalize i + (exB k).length = j at *
  have hc:=ht.cells
  have hf:=ht.free
  go_enter Tryz.func194,Tryz.ntmps194
  go_wp2_with (first
    | go_at_call 212;refine (hrd _ (by exact frP)).mono ?_;rintro e w1 ⟨rfl,hR1,hF1⟩;have hT1:=hF1.blk (b:=t) (by exact blkP) (by simp [o2,o3,o4]);have hc1:=hT1.cells;have hf1:=hT1.free;clear hc hf
    | (refine wre 66 oDec21 ?_)
    | (refine wre 72 oDec21 ?_)
    | (refine wre 78 oDec21 ?_)
    | (refine wre 84 oDec21 ?_)
    | (refine wre 91 oDec21 ?_)
    | (with_reducible refine wEI ?_;(first|(refine wEN ?_;skip)|(refine wEF rfl (fun K hK=>?_);go_simp)|(refine wEL rfl rfl (fun K hK=>?_);go_simp)|(refine wER rfl (fun K hK=>?_);go_simp)|(refine wEM rfl (fun K hK=>?_);go_simp;try refine ⟨_,_,⟨rfl,rfl⟩,?_⟩)|(refine wEG rfl (fun K hK=>?_);go_simp)|(refine wEA rfl (fun K hK=>?_);go_simp))))
  go_ret2
  have hD1:=(h.fr (S:=[t]) (w':=w.setCell ⟨t,0,none⟩ (.int .u8 117)) (by exact frP) (by simp [o1,o2,o3,o4,o5,o6,o7])).read hR1 hF1
  refine ⟨rfl,hD1.fr (S:=[t]) (by exact frP) (by simp [o1,o2,o3,o4,o5,o6,o7]),?_,?_⟩
  · exact blkP
  · exact Fr.setCell (by simp) (Fr.trans (S:=[z,q,r,t]) (by exact frP) hF1 (by simp))
theorem hlpString {ea : Addr} {w : World} {d z q r sb sk lf t : Nat} {xs rest : List UInt8} {i k : Nat} {cs : List Value} {n ph : Nat} {cl : List Value} {m : Nat} {fz str bs : Value} {ty len u tag : Nat} {tg : Bool}
    (h : Dec w d z q r sb sk lf xs i cs n ph cl m) (ht : Blk w t (tk fz ty len str bs u tg tag) 312 (0,0)) (ho : Off t d z q r sb sk lf) (hG : Gl ea w)
    (hx : xs.drop i = exB k ++ rest) (hk : k < 32) (h0 : 0 < k) (hl : k ≤ rest.length) :
    Calls Tryz.prog 194 #[.pointer (some ⟨d,0,none⟩),.int .u8 (3 * 32 + loB k : Nat),.pointer (some ⟨t,0,none⟩)] w fun e w' =>
      e = .returned (.tuple #[.bool true,.nilIface]) ∧ Dec w' d z q r sb sk lf xs (i + (exB k).length + k) cs n ph cl m ∧ Blk w' t (tk fz 115 len (.string ⟨(rest.take k).toArray⟩) bs u tg tag) 312 (0,0) ∧ Fr [z,q,r,t] w w':=by
  obtain ⟨o1,o2,o3,o4,o5,o6,o7,o8⟩:=ho
  have hge:=(⟨h.hs.hs.hr.ge,h.hs.ge⟩ : _ ∧ _)
  have hrd:=fun (w' : World) (hf : Fr [t] w w')=>decodeString (M:=3) (hf.blk h.hd (by simp [Ne.symm o1])) (h.hs.fr hf (by simp [Ne.symm o2]) (by simp [Ne.symm o3]) (by simp [Ne.symm o4]) (by simp [Ne.symm o5])) (hG.fr hf (by simp;omega)) h.dn.1 h.dn.2.1 h.dn.2.2.1 hx (by omega) hk h0 hl
  have hlo:=loB_le k
  have hm1 : (96 : Int) ≤ ((3 * 32 + loB k : Nat) : Int):=by omega
  have hm2 : ((3 * 32 + loB k : Nat) : Int) ≤ 120:=by omega
  clear hlo hx
  generalize 3 * 32 + loB k = mb at *
  generalize i + (exB k).length + k = j at *
  generalize rest.take k = X at *
  have hc:=ht.cells
  have hf:=ht.free
  go_enter Tryz.func194,Tryz.ntmps194
  go_wp2_with (first
    | go_at_call 215;refine (hrd _ (by exact frP)).mono ?_;rintro e w1 ⟨rfl,hR1,hF1⟩;have hT1:=hF1.blk (b:=t) (by exact blkP) (by simp [o2,o3,o4]);have hc1:=hT1.cells;have hf1:=hT1.free;clear hc hf
    | (refine wre 66 oDec21 ?_)
    | (refine wre 72 oDec21 ?_)
    | (refine wre 78 oDec21 ?_)
    | (refine wre 84 oDec21 ?_)
    | (refine wre 91 oDec21 ?_)
    | (with_reducible refine wEI ?_;(first|(refine wEN ?_;skip)|(refine wEF rfl (fun K hK=>?_);go_simp)|(refine wEL rfl rfl (fun K hK=>?_);go_simp)|(refine wER rfl (fun K hK=>?_);go_simp)|(refine wEM rfl (fun K hK=>?_);go_simp;try refine ⟨_,_,⟨rfl,rfl⟩,?_⟩)|(refine wEG rfl (fun K hK=>?_);go_simp)|(refine wEA rfl (fun K hK=>?_);go_simp))))
  go_ret2
  have hD1:=(h.fr (S:=[t]) (w':=w.setCell ⟨t,0,none⟩ (.int .u8 115)) (by exact frP) (by simp [o1,o2,o3,o4,o5,o6,o7])).read hR1 hF1
  refine ⟨rfl,hD1.fr (S:=[t]) (by exact frP) (by simp [o1,o2,o3,o4,o5,o6,o7]),?_,?_⟩
  · exact blkP
  · exact Fr.setCell (by simp) (Fr.trans (S:=[z,q,r,t]) (by exact frP) hF1 (by simp))
end Go.Proofs.Wx

namespace Go.Proofs.Wx
open Go Go.RowKit
abbrev oDec30 : List (Nat × Cls):=[(0,.look),(1,.free),(2,.free)]
theorem newCell {W : World} {n : Nat} {c : Array Value} {t : TypeId} {v : Value} (e : n = W.heap.size) (h : c[0]? = some v) : (W.alloc (.cells c t)).cell? ⟨n,0,none⟩ = some v:=by
  subst e;rw [World.cell?_alloc_new];exact h
theorem hlpArr {ea : Addr} {w : World} {d z q r sb sk lf t : Nat} {xs rest : List UInt8} {i k : Nat} {cs : List Value} {n ph : Nat} {cl : List Value} {m : Nat} {fz str bs : Value} {ty len u tag : Nat} {tg : Bool}
    (h : Dec w d z q r sb sk lf xs i cs n ph cl m) (ht : Blk w t (tk fz ty len str bs u tg tag) 312 (0,0)) (ho : Off t d z q r sb sk lf) (hG : Gl ea w)
    (hx : xs.drop i = exB k ++ rest) (hk : k < 256) (hn : n < 10) (hm : m < 10) :
    Calls Tryz.prog 194 #[.pointer (some ⟨d,0,none⟩),.int .u8 (4 * 32 + loB k : Nat),.pointer (some ⟨t,0,none⟩)] w fun e w' =>
      e = .returned (.tuple #[.bool false,.nilIface]) ∧ Dec w' d z q r sb sk lf xs (i + (exB k).length) (cs.set n (.int .u8 ph)) (n + 1) 4 (cl.set m (.int .i64 k)) (m + 1) ∧ Blk w' t (tk fz 91 k str bs u tg tag) 312 (0,0) ∧ Fr [d,z,q,r,sk,lf,t] w w':=by
  obtain ⟨o1,o2,o3,o4,o5,o6,o7,o8⟩:=ho
  have hge:=(⟨h.hs.hs.hr.ge,h.hs.ge⟩ : _ ∧ _)
  have hrd:=decodeLen (M:=4) h.hd h.hs hG h.dn.1 h.dn.2.1 h.dn.2.2.1 hx (by omega) hk
  have hlo:=loB_le k
  have hm1 : (128 : Int) ≤ ((4 * 32 + loB k : Nat) : Int):=by omega
  have hm2 : ((4 * 32 + loB k : Nat) : Int) ≤ 152:=by omega
  clear hlo hx
  generalize 4 * 32 + loB k = mb at *
  generalize i + (exB k).length = j at *
  obtain ⟨hd,hs,hK,hL,lk,ll,⟨d1,d2,d3,d4,d5,d6⟩,⟨s1,s2,s3,s4,s5⟩,⟨l1,l2,l3,l4⟩,hge2⟩:=h
  have o1':=Ne.symm o1
  have d5':=Ne.symm d5
  have d6':=Ne.symm d6
  have s5':=Ne.symm s5
  have o6':=Ne.symm o6
  have o7':=Ne.symm o7
  have hsl:=hK.lt
  have hll:=hL.lt
  have hdl:=hd.lt
  have htl:=ht.lt
  go_enter Tryz.func194,Tryz.ntmps194
  go_wp2_with (first
    | go_at_call 216;refine hrd.mono ?_;rintro e w1 ⟨rfl,hR1,hF1⟩;have hsz:=hF1.size;have hT1:=hF1.blk ht (by simp [o2,o3,o4]);have hD1:=hF1.blk hd (by simp [d1,d2,d3]);have hK1:=hF1.blk hK (by simp [s1,s2,s3]);have hL1:=hF1.blk hL (by simp [l1,l2,l3]);have tc1:=hT1.cells;have tf1:=hT1.free;have dc1:=hD1.cells;have df1:=hD1.free
    | (with_reducible refine list_bi .append (fun K hK=>?_);  refine appOne _ _ int_slice int_size _ _ rfl lf m 10 cl (by exact blkP) rfl _ _ _ (.int .i64 k) rfl (newCell (by simp) rfl) rfl (by omega) (by omega) (fun w2 hL2 hF2=>?_);have hsz2:=hF2.size;have hT2:=hF2.blk (b:=t) (by exact blkP) (by simp [o7]);have hD2:=hF2.blk (b:=d) (by exact blkP) (by simp [d6]);have hK2:=hF2.blk (b:=sk) (by exact blkP) (by simp [s5]);have hR2:=(Slk.fr (S:=[t]) (w':=_) hR1 (by exact frP) (by simp [Ne.symm o2]) (by simp [Ne.symm o3]) (by simp [Ne.symm o4]) (by simp [Ne.symm o5])).fr hF2 (by simp [Ne.symm l1]) (by simp [Ne.symm l2]) (by simp [Ne.symm l3]) (by simp [Ne.symm l4]);have hF2':=Fr.trans (S:=[d,z,q,r,sk,lf,t]) (w:=w) (by exact frP) hF2 (by simp);have dc2:=hD2.cells;have df2:=hD2.free;clear tc1 tf1 dc1 df1)
    | go_at_call 211;refine (pushPhase (ph:=ph) (lf:=.slice (some ⟨lf,0,none⟩) (m + 1) 10) (by exact blkP) (by exact blkP) lk hn d5 4).mono ?_;rintro e w3 ⟨rfl,hD3,hK3,hF3⟩
    | (refine wre 66 oDec30 ?_)
    | (refine wre 72 oDec30 ?_)
    | (refine wre 78 oDec30 ?_)
    | (refine wre 84 oDec30 ?_)
    | (refine wre 91 oDec30 ?_)
    | (with_reducible refine wEI ?_;(first|(refine wEN ?_;skip)|(refine wEF rfl (fun K hK=>?_);go_simp)|(refine wEL rfl rfl (fun K hK=>?_);go_simp)|(refine wER rfl (fun K hK=>?_);go_simp)|(refine wEM rfl (fun K hK=>?_);go_simp;try refine ⟨_,_,⟨rfl,rfl⟩,?_⟩)|(refine wEG rfl (fun K hK=>?_);go_simp)|(refine wpE_actp rfl rfl (fun K hK=>?_);simp only [List.getElem_toArray,List.getElem_cons_succ,List.getElem_cons_zero];(first|(with_reducible refine op_bi .append ?_;  refine appOne _ _ int_slice int_size _ _ rfl lf m 10 cl (by exact blkP) rfl _ _ _ (.int .i64 k) rfl (newCell (by simp) rfl) rfl (by omega) (by omega) (fun w2 hL2 hF2=>?_);have hsz2:=hF2.size;have hT2:=hF2.blk (b:=t) (by exact blkP) (by simp [o7]);have hD2:=hF2.blk (b:=d) (by exact blkP) (by simp [d6]);have hK2:=hF2.blk (b:=sk) (by exact blkP) (by simp [s5]);have hR2:=(Slk.fr (S:=[t]) (w':=_) hR1 (by exact frP) (by simp [Ne.symm o2]) (by simp [Ne.symm o3]) (by simp [Ne.symm o4]) (by simp [Ne.symm o5])).fr hF2 (by simp [Ne.symm l1]) (by simp [Ne.symm l2]) (by simp [Ne.symm l3]) (by simp [Ne.symm l4]);have hF2':=Fr.trans (S:=[d,z,q,r,sk,lf,t]) (w:=w) (by exact frP) hF2 (by simp);have dc2:=hD2.cells;have df2:=hD2.free;clear tc1 tf1 dc1 df1)))|(refine wEA rfl (fun K hK=>?_);go_simp))))
  go_ret2
  have hFd : Fr [d,sk] w2 w3:=Fr.trans (S:=[d,sk]) (by exact frP) hF3 (by simp)
  refine ⟨rfl,⟨hD3,hR2.fr hFd (by simp [Ne.symm d1,Ne.symm s1]) (by simp [Ne.symm d2,Ne.symm s2]) (by simp [Ne.symm d3,Ne.symm s3]) (by simp [Ne.symm d4,Ne.symm s4]),hK3,hFd.blk hL2 (by simp [d6',s5']),by simp [lk],by simp [ll],⟨d1,d2,d3,d4,d5,d6⟩,⟨s1,s2,s3,s4,s5⟩,⟨l1,l2,l3,l4⟩,hge2⟩,hFd.blk (hT2.conv rfl) (by simp [o1,o6]),hF2'.trans hFd (by simp)⟩
theorem hlpMap {ea : Addr} {w : World} {d z q r sb sk lf t : Nat} {xs rest : List UInt8} {i k : Nat} {cs : List Value} {n ph : Nat} {cl : List Value} {m : Nat} {fz str bs : Value} {ty len u tag : Nat} {tg : Bool}
    (h : Dec w d z q r sb sk lf xs i cs n ph cl m) (ht : Blk w t (tk fz ty len str bs u tg tag) 312 (0,0)) (ho : Off t d z q r sb sk lf) (hG : Gl ea w)
    (hx : xs.drop i = exB k ++ rest) (hk : k < 256) (hn : n < 10) (hm : m < 10) :
    Calls Tryz.prog 194 #[.pointer (some ⟨d,0,none⟩),.int .u8 (5 * 32 + loB k : Nat),.pointer (some ⟨t,0,none⟩)] w fun e w' =>
      e = .returned (.tuple #[.bool false,.nilIface]) ∧ Dec w' d z q r sb sk lf xs (i + (exB k).length) (cs.set n (.int .u8 ph)) (n + 1) 5 (cl.set m (.int .i64 k)) (m + 1) ∧ Blk w' t (tk fz 123 k str bs u tg tag) 312 (0,0) ∧ Fr [d,z,q,r,sk,lf,t] w w':=by
  obtain ⟨o1,o2,o3,o4,o5,o6,o7,o8⟩:=ho
  have hge:=(⟨h.hs.hs.hr.ge,h.hs.ge⟩ : _ ∧ _)
  have hrd:=decodeLen (M:=5) h.hd h.hs hG h.dn.1 h.dn.2.1 h.dn.2.2.1 hx (by omega) hk
  have hlo:=loB_le k
  have hm1 : (160 : Int) ≤ ((5 * 32 + loB k : Nat) : Int):=by omega
  have hm2 : ((5 * 32 + loB k : Nat) : Int) ≤ 184:=by omega
  clear hlo hx
  generalize 5 * 32 + loB k = mb at *
  generalize i + (exB k).length = j at *
  obtain ⟨hd,hs,hK,hL,lk,ll,⟨d1,d2,d3,d4,d5,d6⟩,⟨s1,s2,s3,s4,s5⟩,⟨l1,l2,l3,l4⟩,hge2⟩:=h
  have o1':=Ne.symm o1
  have d5':=Ne.symm d5
  have d6':=Ne.symm d6
  have s5':=Ne.symm s5
  have o6':=Ne.symm o6
  have o7':=Ne.symm o7
  have hsl:=hK.lt
  have hll:=hL.lt
  have hdl:=hd.lt
  have htl:=ht.lt
  go_enter Tryz.func194,Tryz.ntmps194
  go_wp2_with (first
    | go_at_call 216;refine hrd.mono ?_;rintro e w1 ⟨rfl,hR1,hF1⟩;have hsz:=hF1.size;have hT1:=hF1.blk ht (by simp [o2,o3,o4]);have hD1:=hF1.blk hd (by simp [d1,d2,d3]);have hK1:=hF1.blk hK (by simp [s1,s2,s3]);have hL1:=hF1.blk hL (by simp [l1,l2,l3]);have tc1:=hT1.cells;have tf1:=hT1.free;have dc1:=hD1.cells;have df1:=hD1.free
    | (with_reducible refine list_bi .append (fun K hK=>?_);  refine appOne _ _ int_slice int_size _ _ rfl lf m 10 cl (by exact blkP) rfl _ _ _ (.int .i64 k) rfl (newCell (by simp) rfl) rfl (by omega) (by omega) (fun w2 hL2 hF2=>?_);have hsz2:=hF2.size;have hT2:=hF2.blk (b:=t) (by exact blkP) (by simp [o7]);have hD2:=hF2.blk (b:=d) (by exact blkP) (by simp [d6]);have hK2:=hF2.blk (b:=sk) (by exact blkP) (by simp [s5]);have hR2:=(Slk.fr (S:=[t]) (w':=_) hR1 (by exact frP) (by simp [Ne.symm o2]) (by simp [Ne.symm o3]) (by simp [Ne.symm o4]) (by simp [Ne.symm o5])).fr hF2 (by simp [Ne.symm l1]) (by simp [Ne.symm l2]) (by simp [Ne.symm l3]) (by simp [Ne.symm l4]);have hF2':=Fr.trans (S:=[d,z,q,r,sk,lf,t]) (w:=w) (by exact frP) hF2 (by simp);have dc2:=hD2.cells;have df2:=hD2.free;clear tc1 tf1 dc1 df1)
    | go_at_call 211;refine (pushPhase (ph:=ph) (lf:=.slice (some ⟨lf,0,none⟩) (m + 1) 10) (by exact blkP) (by exact blkP) lk hn d5 5).mono ?_;rintro e w3 ⟨rfl,hD3,hK3,hF3⟩
    | (refine wre 66 oDec30 ?_)
    | (refine wre 72 oDec30 ?_)
    | (refine wre 78 oDec30 ?_)
    | (refine wre 84 oDec30 ?_)
    | (refine wre 91 oDec30 ?_)
    | (with_reducible refine wEI ?_;(first|(refine wEN ?_;skip)|(refine wEF rfl (fun K hK=>?_);go_simp)|(refine wEL rfl rfl (fun K hK=>?_);go_simp)|(refine wER rfl (fun K hK=>?_);go_simp)|(refine wEM rfl (fun K hK=>?_);go_simp;try refine ⟨_,_,⟨rfl,rfl⟩,?_⟩)|(refine wEG rfl (fun K hK=>?_);go_simp)|(refine wpE_actp rfl rfl (fun K hK=>?_);simp only [List.getElem_toArray,List.getElem_cons_succ,List.getElem_cons_zero];(first|(with_reducible refine op_bi .append ?_;  refine appOne _ _ int_slice int_size _ _ rfl lf m 10 cl (by exact blkP) rfl _ _ _ (.int .i64 k) rfl (newCell (by simp) rfl) rfl (by omega) (by omega) (fun w2 hL2 hF2=>?_);have hsz2:=hF2.size;have hT2:=hF2.blk (b:=t) (by exact blkP) (by simp [o7]);have hD2:=hF2.blk (b:=d) (by exact blkP) (by simp [d6]);have hK2:=hF2.blk (b:=sk) (by exact blkP) (by simp [s5]);have hR2:=(Slk.fr (S:=[t]) (w':=_) hR1 (by exact frP) (by simp [Ne.symm o2]) (by simp [Ne.symm o3]) (by simp [Ne.symm o4]) (by simp [Ne.symm o5])).fr hF2 (by simp [Ne.symm l1]) (by simp [Ne.symm l2]) (by simp [Ne.symm l3]) (by simp [Ne.symm l4]);have hF2':=Fr.trans (S:=[d,z,q,r,sk,lf,t]) (w:=w) (by exact frP) hF2 (by simp);have dc2:=hD2.cells;have df2:=hD2.free;clear tc1 tf1 dc1 df1)))|(refine wEA rfl (fun K hK=>?_);go_simp))))
  go_ret2
  have hFd : Fr [d,sk] w2 w3:=Fr.trans (S:=[d,sk]) (by exact frP) hF3 (by simp)
  refine ⟨rfl,⟨hD3,hR2.fr hFd (by simp [Ne.symm d1,Ne.symm s1]) (by simp [Ne.symm d2,Ne.symm s2]) (by simp [Ne.symm d3,Ne.symm s3]) (by simp [Ne.symm d4,Ne.symm s4]),hK3,hFd.blk hL2 (by simp [d6',s5']),by simp [lk],by simp [ll],⟨d1,d2,d3,d4,d5,d6⟩,⟨s1,s2,s3,s4,s5⟩,⟨l1,l2,l3,l4⟩,hge2⟩,hFd.blk (hT2.conv rfl) (by simp [o1,o6]),hF2'.trans hFd (by simp)⟩
end Go.Proofs.Wx

namespace Go.Proofs.Wx
open Go Go.RowKit
abbrev oDec40 : List (Nat × Cls):=[(0,.look),(1,.free),(2,.free)]
theorem drop_cons {xs rest : List UInt8} {i : Nat} {x : UInt8} (h : xs.drop i = x :: rest) : ∃ hi : i < xs.length,xs[i] = x ∧ xs.drop (i + 1) = rest:=by
  have hi : i < xs.length:=by
    rcases Nat.lt_or_ge i xs.length with h'|h'
    · exact h'
    · rw [List.drop_eq_nil_of_le h'] at h;cases h
  rw [List.drop_eq_getElem_cons hi] at h
  simp only [List.cons.injEq] at h
  exact ⟨hi,h⟩
theorem hlpTag {ea : Addr} {w : World} {d z q r sb sk lf t : Nat} {xs rest : List UInt8} {i k : Nat} {cs : List Value} {n ph : Nat} {cl : List Value} {m : Nat} {fz str bs : Value} {ty len u tag : Nat}
    (h : Dec w d z q r sb sk lf xs i cs n ph cl m) (ht : Blk w t (tk fz ty len str bs u false tag) 312 (0,0)) (ho : Off t d z q r sb sk lf) (hG : Gl ea w)
    (hx : xs.drop i = 42 :: UInt8.ofNat (2 * 32 + loB k) :: (exB k ++ rest)) (hk : k < 256) (h0 : 0 < k) (hl : k ≤ rest.length) :
    Calls Tryz.prog 194 #[.pointer (some ⟨d,0,none⟩),.int .u8 216,.pointer (some ⟨t,0,none⟩)] w fun e w' =>
      ∃ v b,e = .returned (.tuple #[.bool true,.nilIface]) ∧ Dec w' d z q r sb sk lf xs (i + 2 + (exB k).length + k) cs n ph cl m ∧ w.heap.size ≤ b ∧ Sl w' v b (rest.take k) ∧ Blk w' t (tk fz 120 len str v u true 42) 312 (0,0) ∧ Fr [z,q,r,t] w w':=by
  have ho':=ho
  obtain ⟨o1,o2,o3,o4,o5,o6,o7,o8⟩:=ho'
  have hge:=(⟨h.hs.hs.hr.ge,h.hs.ge⟩ : _ ∧ _)
  have he : exB 42 = [42]:=rfl
  have hrd:=fun (w' : World) (hf : Fr [t] w w')=>decodeLen (M:=6) (n:=42) (rest:=UInt8.ofNat (2 * 32 + loB k) :: (exB k ++ rest)) (hf.blk h.hd (by simp [Ne.symm o1])) (h.hs.fr hf (by simp [Ne.symm o2]) (by simp [Ne.symm o3]) (by simp [Ne.symm o4]) (by simp [Ne.symm o5])) (hG.fr hf (by simp;omega)) h.dn.1 h.dn.2.1 h.dn.2.2.1 (by rw [hx,he];rfl) (by omega) (by omega)
  rw [he,show (6 * 32 + loB 42 : Nat) = 216 from rfl] at hrd
  obtain ⟨hi,hxi,hx1⟩:=drop_cons hx
  obtain ⟨hi1,hxi1,hx2⟩:=drop_cons hx1
  have hlo:=loB_le k
  have hb : xs[i + 1].toNat = 2 * 32 + loB k:=by rw [hxi1];simp;omega
  have hrd2:=fun (w' : World) (hs : Slk w' z q r sb xs (i + 1)) (hG : Gl ea w')=>slkReadn1 hs hi1 hG
  rw [hb] at hrd2
  have hrd3:=fun (w' : World) (hs : Dec w' d z q r sb sk lf xs (i + 1 + 1) cs n ph cl m) (ht) (hG : Gl ea w')=>hlpBytes (fz:=fz) (ty:=ty) (len:=len) (str:=str) (bs:=bs) (u:=u) (tg:=true) (tag:=42) hs ht ho hG hx2 hk h0 hl
  clear hx hx1 hx2 hxi hxi1 hb hlo
  rw [show i + 2 + (exB k).length + k = i + 1 + 1 + (exB k).length + k by omega]
  generalize 2 * 32 + loB k = mb at *
  generalize i + 1 + 1 + (exB k).length + k = j at *
  generalize rest.take k = X at *
  have hc:=ht.cells
  have hf:=ht.free
  go_enter Tryz.func194,Tryz.ntmps194
  go_wp2_with (first
    | go_at_call 216;refine (hrd _ (by exact frP)).mono ?_;rintro e w1 ⟨rfl,hR1,hF1⟩;have hT1:=hF1.blk (b:=t) (by exact blkP) (by simp [o2,o3,o4]);have hD1:=(h.fr (S:=[t]) (w':=w.setCell ⟨t,8,none⟩ (.bool true)) (by exact frP) (by simp [o1,o2,o3,o4,o5,o6,o7])).read hR1 hF1;have hc1:=hT1.cells;have hf1:=hT1.free;have dc1:=hD1.hd.cells;have hG1:=hG.fr (Fr.trans (S:=[z,q,r,t]) (by exact frP) hF1 (by simp)) (by simp;omega);clear hc hf
    | go_at_call 415;refine (hrd2 _ (hR1.fr (S:=[t]) (by exact frP) (by simp [Ne.symm o2]) (by simp [Ne.symm o3]) (by simp [Ne.symm o4]) (by simp [Ne.symm o5])) (hG1.fr (S:=[t]) (by exact frP) (by simp;omega))).mono ?_;rintro e w2 ⟨rfl,hR2,hF2⟩;have hD2:=(hD1.fr (S:=[t]) (w':=w1.setCell ⟨t,9,none⟩ (.int .i64 42)) (by exact frP) (by simp [o1,o2,o3,o4,o5,o6,o7])).read hR2 hF2;have hT2:=hF2.blk (b:=t) (by exact blkP) (by simp [o2,o3,o4]);have hG2:=(hG1.fr (S:=[t]) (by exact frP) (by simp;omega)).fr hF2 (by simp;omega);have hF12:=Fr.trans (S:=[z,q,r,t]) (w:=w) (Fr.setCell (by simp) (Fr.trans (S:=[z,q,r,t]) (by exact frP) hF1 (by simp))) hF2 (by simp)
    | go_at_call 194;refine (hrd3 _ hD2 hT2 hG2).mono ?_;rintro e w3 ⟨v,b,rfl,hD3,hb3,hS3,hT3,hF3⟩
    | (refine wre 66 oDec40 ?_)
    | (refine wre 72 oDec40 ?_)
    | (refine wre 78 oDec40 ?_)
    | (refine wre 84 oDec40 ?_)
    | (refine wre 91 oDec40 ?_)
    | (with_reducible refine wEI ?_;(first|(refine wEN ?_;skip)|(refine wEF rfl (fun K hK=>?_);go_simp)|(refine wEL rfl rfl (fun K hK=>?_);go_simp)|(refine wER rfl (fun K hK=>?_);go_simp)|(refine wEM rfl (fun K hK=>?_);go_simp;try refine ⟨_,_,⟨rfl,rfl⟩,?_⟩)|(refine wEG rfl (fun K hK=>?_);go_simp)|(refine wEA rfl (fun K hK=>?_);go_simp))))
  go_ret2
  have hsz:=hF12.size
  exact ⟨v,b,rfl,hD3,by omega,hS3,hT3,hF12.trans hF3 (by simp)⟩
end Go.Proofs.Wx
