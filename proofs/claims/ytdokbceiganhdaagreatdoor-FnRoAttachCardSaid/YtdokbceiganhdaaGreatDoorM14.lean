import Derived.Test.YtdokbceiganhdaaGreatDoorM9
import Derived.Test.YtdokbceiganhdaaGreatDoorM10
import Derived.Test.YtdokbceiganhdaaGreatDoorM13
set_option maxRecDepth 100000
set_option maxHeartbeats 1000000
set_option linter.unusedVariables false
set_option linter.unusedSimpArgs false
set_option linter.deprecated false
set_option linter.all false
set_option linter.unusedSectionVars false
namespace Go.Proofs.Wx
open Go Go.RowKit
theorem list_step (l : List Value) (i : Nat) (v : Value) (rest : List Value) (h : i + (rest.length + 1) ≤ l.length) :
    (l.set i v).take (i + 1) ++ rest ++ (l.set i v).drop (i + 1 + rest.length) = l.take i ++ (v :: rest) ++ l.drop (i + (rest.length + 1)):=by
  have ho : i < l.length:=by omega
  rw [List.drop_set,if_pos (by omega),List.take_set,List.take_succ_eq_append_getElem ho,List.set_append_right _ _ (by simp;omega)]
  simp [Nat.min_eq_left (Nat.le_of_lt ho),Nat.add_assoc,Nat.add_comm 1]
theorem storeCells_fr {P : Program} (g o : Nat) (t : TypeId) (fr : Nat × Nat) : ∀ (vs : List Value) (i : Nat) (cur : Array Value) (w : World),w.heap[g]? = some (.cells cur t fr) → o + i + vs.length ≤ cur.size → (∀ k,k < cur.size → ¬ (fr.1 ≤ k ∧ k < fr.2)) → (∀ v ∈ vs,v.oneCell' = true) →
    (storeCells ⟨g,o,none⟩ vs i).run P w = .ok () (w.setRow g (cur.toList.take (o + i) ++ vs ++ cur.toList.drop (o + i + vs.length)).toArray)
  | [],i,cur,w,hg,_,_,_=>by
    simp only [storeCells,List.append_nil,List.length_nil,Nat.add_zero,List.take_append_drop,Array.toArray_toList]
    rw [setRow_self w g cur t fr hg]
    rfl
  | v :: rest,i,cur,w,hg,hl,hf,h1=>by
    have hi : o + i < cur.size:=by simp at hl;omega
    have hadd : (⟨g,o,none⟩ : Addr).add i = ⟨g,o + i,none⟩:=Addr.add_lit _ _ _
    have hcell : w.cell? ⟨g,o + i,none⟩ = some cur[o + i]:=by simp [World.cell?,hg,hi]
    have hfro : w.frozen? ⟨g,o + i,none⟩ = false:=by
      have:=hf _ hi
      obtain ⟨lo,hi'⟩:=fr
      simp only [World.frozen?,hg]
      simp only [not_and,Nat.not_lt] at this
      by_cases h : lo ≤ o + i
      · simp [h,this h]
      · simp [h]
    have hst : (store ((⟨g,o,none⟩ : Addr).add i) v).run P w = .ok () (w.setRow g (cur.setIfInBounds (o + i) v)):=by
      rw [hadd,run_store P w _ v _ (h1 v (by simp)),hcell]
      simp [hfro,setCell_eq_setRow w g (o + i) cur t fr v hg]
    have ih:=storeCells_fr (P:=P) g o t fr rest (i + 1) (cur.setIfInBounds (o + i) v) (w.setRow g (cur.setIfInBounds (o + i) v)) (setRow_heap w g cur _ t _ hg) (by simp at hl ⊢;omega) (by simpa using hf) (fun x hx=>h1 x (by simp [hx]))
    simp only [storeCells,Sem.run_bind,hst,Result.andThen_ok,ih,setRow_setRow]
    congr 3
    have e:=list_step cur.toList (o + i) v rest (by simp at hl ⊢;omega)
    simpa [Array.toList_setIfInBounds,Nat.add_assoc] using e
/-- v is a row of the call's own that reads xs, in a block whose cells may be written. -/
def OwnF (base : Nat) (w : World) (v : Value) (xs : List UInt8) : Prop:=∃ g cap cur fr,v = .slice (some ⟨g,0,none⟩) xs.length cap ∧ base ≤ g ∧ w.heap[g]? = some (.cells cur 5 fr) ∧ xs.length ≤ cap ∧ cap ≤ maxLen ∧ cur.size = cap ∧ cur.toList.take xs.length = by8 xs ∧
  ∀ k,k < cur.size → ¬ (fr.1 ≤ k ∧ k < fr.2)
theorem OwnF.bs {base : Nat} {w : World} {v : Value} {xs : List UInt8} (h : OwnF base w v xs) : ∃ g c,v = .slice (some ⟨g,0,none⟩) xs.length c ∧ base ≤ g ∧ Bs w g 0 xs:=by
  obtain ⟨g,cap,cur,fr,rfl,hb,hg,_,_,_,ht,_⟩:=h
  refine ⟨g,cap,rfl,hb,?_⟩
  have : Blk w g cur.toList 5 fr:=hg
  exact Blk.bs (pre:=[]) (post:=cur.toList.drop xs.length) this (by rw [← ht];simp) rfl
theorem OwnF.fr {base : Nat} {w w' : World} {v : Value} {xs : List UInt8} {S : List Nat} (h : OwnF base w v xs) (hf : Fr S w w') (hS : ∀ k ∈ S,k < base ∨ v.ownBlock ≠ some k) : OwnF base w' v xs:=by
  obtain ⟨g,cap,cur,fr,rfl,hb,hg,h1⟩:=h
  exact ⟨g,cap,cur,fr,rfl,hb,by rw [hf.block g (Array.getElem?_eq_some_iff.1 hg).1 (fun hm=>by rcases hS g hm with h|h;omega;simp [Value.ownBlock] at h)];exact hg,h1⟩
theorem own_fr_new {base : Nat} {w : World} {xs : List UInt8} {C : Nat} (hb : base ≤ w.heap.size) (hl : xs.length ≤ C) (hm : C ≤ maxLen) {X : List Value} {cur : Array Value} (hc : cur.toList = by8 xs ++ X) (hs : cur.size = C) :
    OwnF base (w.alloc (.cells cur 5)) (.slice (some ⟨w.heap.size,0,none⟩) xs.length C) xs :=
  ⟨w.heap.size,C,cur,(0,0),rfl,hb,by show (w.heap.push _)[w.heap.size]? = _;simp,hl,hm,hs,by rw [hc,List.take_left' (by8_length _)],by simp⟩
theorem strCells8 (ys : List UInt8) : Lib.strCells ⟨ys.toArray⟩ = by8 ys:=by simp [Lib.strCells,by8]
/-- append of a string to such a row. -/
theorem appFS {o : Oper} {a : Act} {K : Act → World → Prop} {Q : Exit → Act → World → Prop} {w : World} (s x : Operand)
    (ho : o.op = .call { callee:=.builtin .append,args:=#[s,x],argTypes:=#[76,9] })
    (base : Nat) (v : Value) (xs ys : List UInt8) (hs : a.eval s = v) (hown : OwnF base w v xs) (hx : a.eval x = .string ⟨ys.toArray⟩)
    (hl : xs.length + ys.length < 1000000000) (hbase : base ≤ w.heap.size)
    (h : ∀ v' w',OwnF base w' v' (xs ++ ys) → Fr v.ownBlock.toList w w' → K (a.put o.dst v') w') : o.wp Tryz.prog a w K Q:=by
  obtain ⟨i,hi,hz,hsz,hby⟩:=info_parts u8_info
  have hys : (⟨ys.toArray⟩ : ByteArray).size = ys.length:=by simp [ByteArray.size]
  have hbs:=hown.bs
  obtain ⟨g,cap,cur,fr,rfl,hb,hg,hlc,hcm,hcs,ht,hfz⟩:=hown
  have hstr : Tryz.prog.underlying 9 = some .string:=by kernel_rfl
  have key : ∃ v' w',(Builtin.append_ #[76,9] o.type #[.slice (some ⟨g,0,none⟩) xs.length cap,.string ⟨ys.toArray⟩]).run Tryz.prog w = .ok v' w' ∧ OwnF base w' v' (xs ++ ys) ∧ Fr (Value.slice (some ⟨g,0,none⟩) xs.length cap).ownBlock.toList w w':=by
    by_cases hroom : xs.length + ys.length ≤ cap
    · have hf:=Lib.run_firstCells_string (P:=Tryz.prog) w 1 ⟨ys.toArray⟩
      have hst:=storeCells_fr (P:=Tryz.prog) g xs.length 5 fr (Lib.strCells ⟨ys.toArray⟩) 0 cur w hg (by rw [Lib.strCells_length,hys];omega) hfz (Lib.strCells_oneCell _)
      simp only [Nat.add_zero,strCells8,by8_length] at hst
      rw [strCells8,hys] at hf
      refine ⟨.slice (some ⟨g,0,none⟩) (xs ++ ys).length cap,w.setRow g (cur.toList.take xs.length ++ by8 ys ++ cur.toList.drop (xs.length + ys.length)).toArray,?_,⟨g,cap,(cur.toList.take xs.length ++ by8 ys ++ cur.toList.drop (xs.length + ys.length)).toArray,fr,rfl,hb,setRow_heap w g cur _ _ fr hg,by simp;omega,hcm,?_,?_,?_⟩,Fr.setRow (.inl (by simp [Value.ownBlock])) Fr.refl⟩
      · simp [Builtin.append_,run_underlying u8_slice,run_underlying hstr,sizeOf,typeInfo,hi,hsz,Builtin.lenOf,hys,hroom,hf,Addr.add_lit,hst]
      · simp [by8_length];omega
      · rw [List.take_left' (by simp [by8_length];omega),ht,by8_append]
      · intro k hk
        refine hfz k ?_
        simp [by8_length] at hk
        omega
    · have hr:=Lib.run_append_grow_string (P:=Tryz.prog) w 76 9 o.type 5 i (.int .u8 0) u8_slice hstr hi hz ⟨g,0,none⟩ xs.length cap (by8 xs) (by rw [by8_length,hsz,Nat.mul_one]) (fun j u hu=>by
        obtain ⟨g',c',e,_,hB⟩:=hbs
        cases e
        have hj : j < xs.length:=by have:=(List.getElem?_eq_some_iff.1 hu).1;rwa [by8_length] at this
        rw [by8_at _ _ hj] at hu
        rw [← hu,Addr.add_lit];exact hB.cell j hj) ⟨ys.toArray⟩ (by rw [hys];omega) (by rw [hys];omega) (by rw [hby,hys];exact growslice_fits (by omega) (by omega))
      rw [hys] at hr
      refine ⟨_,_,hr,?_,Fr.alloc (Fr.drew Fr.refl)⟩
      have hge:=grownCap_ge w (xs.length + ys.length) cap 5
      have hle:=grownCap_le_maxLen w (xs.length + ys.length) cap 5 (by unfold maxLen;omega)
      have:=own_fr_new (base:=base) (w:=w.drew) (xs:=xs ++ ys) (C:=grownCap w (xs.length + ys.length) cap 5) (by exact hbase) (by simpa using hge) hle
        (cur:=(by8 xs).toArray ++ (Lib.strCells ⟨ys.toArray⟩).toArray ++ Builtin.zeroCells (Value.int .u8 0).cells (grownCap w (xs.length + ys.length) cap 5 - (xs.length + ys.length)))
        (X:=(Builtin.zeroCells (Value.int .u8 0).cells (grownCap w (xs.length + ys.length) cap 5 - (xs.length + ys.length))).toList) (by simp [strCells8,by8_append]) (by
          have hz1 : (Value.int IntKind.u8 0).cells.size = 1:=rfl
          simp only [Array.size_append,List.size_toArray,size_zeroCells,hz1,by8_length,strCells8]
          omega)
      simpa using this
  obtain ⟨v',w',hr,h1,h2⟩:=key
  unfold Oper.wp execOp
  simp only [ho,resolve,invoke,builtin,Sem.run_bind,Sem.run_pure,Result.andThen_ok,List.map_toArray,List.map_cons,List.map_nil,hs,hx,hr]
  exact h v' w' h1 h2
/-- append of one byte that was just laid to such a row. -/
theorem appF1 {o : Oper} {a : Act} {K : Act → World → Prop} {Q : Exit → Act → World → Prop} {w : World} (s x : Operand)
    (ho : o.op = .call { callee:=.builtin .append,args:=#[s,x],argTypes:=#[76,76] })
    (base : Nat) (v : Value) (xs : List UInt8) (y : UInt8) (hs : a.eval s = v) (hown : OwnF base w v xs) (b c : Nat) (hx : a.eval x = .slice (some ⟨b,0,none⟩) 1 c) (hc : w.cell? ⟨b,0,none⟩ = some (.int .u8 (y.toNat : Nat)))
    (hl : xs.length < 900000000) (hbase : base ≤ w.heap.size)
    (h : ∀ v' w',OwnF base w' v' (xs ++ [y]) → Fr v.ownBlock.toList w w' → K (a.put o.dst v') w') : o.wp Tryz.prog a w K Q:=by
  obtain ⟨i,hi,hz,hsz,hby⟩:=info_parts u8_info
  have hbs:=hown.bs
  have hnews : ∀ j u,(by8 [y])[j]? = some u → w.cell? ((⟨b,0,none⟩ : Addr).add j) = some u:=by
    intro j u hu
    match j,hu with
    | 0,hu=>simp [by8] at hu;subst hu;rw [Addr.add_lit];exact hc
  obtain ⟨g,cap,cur,fr,rfl,hb,hg,hlc,hcm,hcs,ht,hfz⟩:=hown
  have key : ∃ v' w',(Builtin.append_ #[76,76] o.type #[.slice (some ⟨g,0,none⟩) xs.length cap,.slice (some ⟨b,0,none⟩) 1 c]).run Tryz.prog w = .ok v' w' ∧ OwnF base w' v' (xs ++ [y]) ∧ Fr (Value.slice (some ⟨g,0,none⟩) xs.length cap).ownBlock.toList w w':=by
    by_cases hroom : xs.length + 1 ≤ cap
    · have hf:=run_firstCells_some (P:=Tryz.prog) w i.size 1 ⟨b,0,none⟩ 1 c (by8 [y]) (by rw [hsz];simp [by8]) hnews
      have hst:=storeCells_fr (P:=Tryz.prog) g xs.length 5 fr (by8 [y]) 0 cur w hg (by rw [by8_length];simp;omega) hfz (by8_one _)
      simp only [Nat.add_zero,by8_length] at hst
      refine ⟨.slice (some ⟨g,0,none⟩) (xs ++ [y]).length cap,w.setRow g (cur.toList.take xs.length ++ by8 [y] ++ cur.toList.drop (xs.length + [y].length)).toArray,?_,⟨g,cap,(cur.toList.take xs.length ++ by8 [y] ++ cur.toList.drop (xs.length + [y].length)).toArray,fr,rfl,hb,setRow_heap w g cur _ _ fr hg,by simp;omega,hcm,?_,?_,?_⟩,Fr.setRow (.inl (by simp [Value.ownBlock])) Fr.refl⟩
      · rw [hsz] at hf
        simp [Builtin.append_,run_underlying u8_slice,sizeOf,typeInfo,hi,hsz,Builtin.lenOf,hroom,hf,Addr.add_lit,hst]
      · simp [by8_length];omega
      · rw [List.take_left' (by simp [by8_length];omega),ht,by8_append]
      · intro k hk
        refine hfz k ?_
        simp [by8_length] at hk
        omega
    · have hr:=run_append_grow (P:=Tryz.prog) w 76 o.type 5 i (.int .u8 0) u8_slice hi hz ⟨g,0,none⟩ xs.length cap (by8 xs) (by rw [by8_length,hsz,Nat.mul_one]) (fun j u hu=>by
        obtain ⟨g',c',e,_,hB⟩:=hbs
        cases e
        have hj : j < xs.length:=by have:=(List.getElem?_eq_some_iff.1 hu).1;rwa [by8_length] at this
        rw [by8_at _ _ hj] at hu
        rw [← hu,Addr.add_lit];exact hB.cell j hj) ⟨b,0,none⟩ 1 c (by8 [y]) (by rw [hsz];simp [by8]) hnews (by omega) (by omega) (by rw [hby];exact growslice_fits (by omega) (by omega))
      refine ⟨_,_,hr,?_,Fr.alloc (Fr.drew Fr.refl)⟩
      have hge:=grownCap_ge w (xs.length + 1) cap 5
      have hle:=grownCap_le_maxLen w (xs.length + 1) cap 5 (by unfold maxLen;omega)
      have:=own_fr_new (base:=base) (w:=w.drew) (xs:=xs ++ [y]) (C:=grownCap w (xs.length + 1) cap 5) (by exact hbase) (by simpa using hge) hle
        (cur:=(by8 xs).toArray ++ (by8 [y]).toArray ++ Builtin.zeroCells (Value.int .u8 0).cells (grownCap w (xs.length + 1) cap 5 - (xs.length + 1)))
        (X:=(Builtin.zeroCells (Value.int .u8 0).cells (grownCap w (xs.length + 1) cap 5 - (xs.length + 1))).toList) (by simp [by8_append]) (by
          have hz1 : (Value.int IntKind.u8 0).cells.size = 1:=rfl
          simp only [Array.size_append,List.size_toArray,size_zeroCells,hz1,by8_length,List.length_singleton]
          omega)
      simpa using this
  obtain ⟨v',w',hr,h1,h2⟩:=key
  unfold Oper.wp execOp
  simp only [ho,resolve,invoke,builtin,Sem.run_bind,Sem.run_pure,Result.andThen_ok,List.map_toArray,List.map_cons,List.map_nil,hs,hx,hr]
  exact h v' w' h1 h2
/-- []byte(s), as such a row. -/
theorem strF {o : Oper} {a : Act} {K : Act → World → Prop} {Q : Exit → Act → World → Prop} {w : World} (x : Operand) (ho : o.op = .convert 9 76 x) (base : Nat) (hbase : base ≤ w.heap.size)
    (xs : List UInt8) (hx : a.eval x = .string ⟨xs.toArray⟩) (hl : xs.length ≤ 1000000000)
    (h : ∀ v w',OwnF base w' v xs → Fr [] w w' → K (a.put o.dst v) w') : o.wp Tryz.prog a w K Q:=by
  have hr:=run_bytes_of_string (P:=Tryz.prog) w 9 76 5 ⟨xs.toArray⟩ str_und u8_slice u8_und
  have hs : (⟨xs.toArray⟩ : ByteArray).size = xs.length:=by simp [ByteArray.size]
  have hge:=grownCap_ge w xs.length 0 5
  have hle:=grownCap_le_maxLen w xs.length 0 5 (by unfold maxLen;omega)
  rw [hs] at hr
  generalize grownCap w xs.length 0 5 = C at *
  unfold Oper.wp execOp
  simp only [ho,hx,Sem.run_bind,hr,Result.andThen_ok,Sem.run_pure]
  have e : (bytesRow ⟨xs.toArray⟩ C).toList = by8 xs ++ List.replicate (C - xs.length) (Value.int .u8 0):=by simp [bytesRow,by8,hs]
  have hsz : (bytesRow ⟨xs.toArray⟩ C).size = C:=by
    have:=congrArg List.length e
    simp [by8_length] at this
    omega
  refine h _ _ ⟨w.heap.size,C,bytesRow ⟨xs.toArray⟩ C,((bytesRow ⟨xs.toArray⟩ C).size,(bytesRow ⟨xs.toArray⟩ C).size + 1),rfl,hbase,?_,hge,hle,hsz,?_,?_⟩ (Fr.alloc (Fr.drew Fr.refl))
  · show (w.heap.push _)[w.heap.size]? = _;simp
  · rw [e,List.take_left' (by8_length _)]
  · intro k hk h2;omega
end Go.Proofs.Wx

namespace Go.Proofs.Wx
open Go Go.RowKit
def litRel (w : World) (A n : Nat) (k : Nat) (s5 : Value) (wr : World) : Prop :=
  ∃ i,s5 = .int .i64 (i : Nat) ∧ i + k = 8 ∧ Blk wr A (by8 (Lib.leBytes i n) ++ List.replicate (8 - i) (.int .u8 0)) 230 (0,0) ∧ Fr [A] w wr
theorem spLittle {w : World} {n : Nat} : Calls Tryz.prog 80 #[.int .u64 n] w fun e w'=>e = .returned (.string ⟨(Lib.leBytes 8 n).toArray⟩) ∧ Fr [] w w':=by
  go_enter Tryz.func80,Tryz.ntmps80
  go_wp2
  have hB0 : Blk (w.alloc (.cells #[.int .u8 0,.int .u8 0,.int .u8 0,.int .u8 0,.int .u8 0,.int .u8 0,.int .u8 0,.int .u8 0] 230)) w.heap.size (List.replicate 8 (.int .u8 0)) 230 (0,0):=Blk.newAt rfl
  have hF0 : Fr [] w (w.alloc (.cells #[.int .u8 0,.int .u8 0,.int .u8 0,.int .u8 0,.int .u8 0,.int .u8 0,.int .u8 0,.int .u8 0] 230)):=Fr.alloc Fr.refl
  generalize w.alloc (.cells #[.int .u8 0,.int .u8 0,.int .u8 0,.int .u8 0,.int .u8 0,.int .u8 0,.int .u8 0,.int .u8 0] 230) = w1 at *
  obtain ⟨A,hA⟩ : ∃ A,A = w.heap.size:=⟨_,rfl⟩
  rw [← hA] at hB0 ⊢
  have HA:=Lib.hid hA
  clear hA
  go_loopg [5] 8 (fun k s5 wr=>litRel w1 A n k s5 wr)
  case atStart=>exact ⟨0,rfl,by omega,by simpa [Lib.leBytes,by8] using hB0,Fr.refl⟩
  case round =>
    obtain ⟨i,rfl,hik,hB,hFr⟩:=hrel
    clear hB0
    by_cases hi : i < 8
    · have hz : (i : Int) < 8:=by omega
      have hbc:=hB.cells
      have hbf:=hB.free
      have hci : wr.cell? ⟨A,i,none⟩ = some (.int .u8 0):=by
        rw [hB.cell,List.getElem?_append_right (by simp [by8_length,Lib.leBytes_length])]
        rw [by8_length,Lib.leBytes_length,Nat.sub_self,show 8 - i = (8 - (i + 1)) + 1 by omega,List.replicate_succ];rfl
      have HI:=Lib.hid hik
      clear hik hbc
      go_wp2
      go_roundg (8 - (i + 1))
      case measure=>have:=HI.out;omega
      case rel =>
        refine ⟨i + 1,by first|(rw [wrap64_1 (by omega)];done)|(simp;done),by have:=HI.out;omega,Blk.conv hB.set ?_,Fr.setCell (.inl (by simp)) hFr⟩
        rw [byte_at,leBytes_snoc,by8_append,List.set_append_right _ _ (by simp [by8_length,Lib.leBytes_length])]
        simp only [by8_length,Lib.leBytes_length,Nat.sub_self]
        rw [show 8 - i = (8 - (i + 1)) + 1 by omega,List.replicate_succ]
        simp [by8]
    · have hz : ¬ (i : Int) < 8:=by omega
      have hie : i = 8:=by omega
      subst hie
      have hbs : Bs wr A 0 (Lib.leBytes 8 n):=Blk.bs (pre:=[]) (post:=[]) hB (by simp) rfl
      have hl8:=Lib.leBytes_length 8 n
      clear hik hB
      obtain ⟨Z,hZ⟩ : ∃ Z,Hid (Z = Lib.leBytes 8 n):=⟨_,rfl⟩
      rw [← hZ.out] at hbs hl8
      have HZ:=Lib.hid hl8
      clear hl8
      go_wp2_with (first
        | (with_reducible refine list_convert (fun K hK=>?_);  refine strOf _ rfl hbs HZ.out.symm rfl ?_))
      go_ret
      exact ⟨by rw [← hZ.out];rfl,hF0.trans hFr (by have:=HA.out;simp;omega)⟩
abbrev hdrA (a b c d e : Nat) : Value:=.agg #[.int .u64 a,.int .u64 b,.int .u64 c,.int .u64 d,.int .u64 e]
def hdrB (a b c d e : Nat) : List UInt8:=Lib.leBytes 8 a ++ (Lib.leBytes 8 b ++ (Lib.leBytes 8 c ++ (Lib.leBytes 8 d ++ Lib.leBytes 8 e)))
theorem hdrB_length (a b c d e : Nat) : (hdrB a b c d e).length = 40:=by simp [hdrB,Lib.leBytes_length]
set_option maxRecDepth 1000000 in
set_option maxHeartbeats 12800000 in
theorem spHeadBytes {w : World} {a b c d e : Nat} : Calls Tryz.prog 47 #[hdrA a b c d e] w fun e' w'=>e' = .returned (.string ⟨(hdrB a b c d e).toArray⟩) ∧ Fr [] w w':=by
  have h1:=fun w=>spLittle (w:=w) (n:=a)
  have h2:=fun w=>spLittle (w:=w) (n:=b)
  have h3:=fun w=>spLittle (w:=w) (n:=c)
  have h4:=fun w=>spLittle (w:=w) (n:=d)
  have h5:=fun w=>spLittle (w:=w) (n:=e)
  unfold hdrA hdrB
  have l1:=Lib.leBytes_length 8 a
  have l2:=Lib.leBytes_length 8 b
  have l3:=Lib.leBytes_length 8 c
  have l4:=Lib.leBytes_length 8 d
  have l5:=Lib.leBytes_length 8 e
  obtain ⟨Z1,g1⟩ : ∃ Z,Hid (Z = Lib.leBytes 8 a):=⟨_,rfl⟩
  obtain ⟨Z2,g2⟩ : ∃ Z,Hid (Z = Lib.leBytes 8 b):=⟨_,rfl⟩
  obtain ⟨Z3,g3⟩ : ∃ Z,Hid (Z = Lib.leBytes 8 c):=⟨_,rfl⟩
  obtain ⟨Z4,g4⟩ : ∃ Z,Hid (Z = Lib.leBytes 8 d):=⟨_,rfl⟩
  obtain ⟨Z5,g5⟩ : ∃ Z,Hid (Z = Lib.leBytes 8 e):=⟨_,rfl⟩
  rw [← g1.out] at h1 l1
  rw [← g2.out] at h2 l2
  rw [← g3.out] at h3 l3
  rw [← g4.out] at h4 l4
  rw [← g5.out] at h5 l5
  rw [← g1.out,← g2.out,← g3.out,← g4.out,← g5.out]
  have k1 : Z1.length ≤ 8:=by omega
  have k2 : Z2.length ≤ 8:=by omega
  have k3 : Z3.length ≤ 8:=by omega
  have k4 : Z4.length ≤ 8:=by omega
  have k5 : Z5.length ≤ 8:=by omega
  clear l1 l2 l3 l4 l5
  have hF : Fr [] w w:=Fr.refl
  go_enter Tryz.func47,Tryz.ntmps47
  go_wp2_with (first
    | go_at_call 80;(with_reducible refine (h1 _).mono ?_);rintro e w1 ⟨rfl,hFn⟩;(try go_simp);refine hK _ _ (Fr.ext hFn) ?_;replace hF:=Fr.trans (S:=[]) (S':=[]) (w:=w) (by first|exact hF|exact frP) hFn (by simp);clear hFn h1
    | go_at_call 80;(with_reducible refine (h2 _).mono ?_);rintro e w1 ⟨rfl,hFn⟩;(try go_simp);refine hK _ _ (Fr.ext hFn) ?_;replace hF:=Fr.trans (S:=[]) (S':=[]) (w:=w) (by first|exact hF|exact frP) hFn (by simp);clear hFn h2
    | go_at_call 80;(with_reducible refine (h3 _).mono ?_);rintro e w1 ⟨rfl,hFn⟩;(try go_simp);refine hK _ _ (Fr.ext hFn) ?_;replace hF:=Fr.trans (S:=[]) (S':=[]) (w:=w) (by first|exact hF|exact frP) hFn (by simp);clear hFn h3
    | go_at_call 80;(with_reducible refine (h4 _).mono ?_);rintro e w1 ⟨rfl,hFn⟩;(try go_simp);refine hK _ _ (Fr.ext hFn) ?_;replace hF:=Fr.trans (S:=[]) (S':=[]) (w:=w) (by first|exact hF|exact frP) hFn (by simp);clear hFn h4
    | go_at_call 80;(with_reducible refine (h5 _).mono ?_);rintro e w1 ⟨rfl,hFn⟩;(try go_simp);refine hK _ _ (Fr.ext hFn) ?_;replace hF:=Fr.trans (S:=[]) (S':=[]) (w:=w) (by first|exact hF|exact frP) hFn (by simp);clear hFn h5
    | (refine wre 1 [(0,.free),(1,.look),(3,.free),(4,.look),(7,.free),(8,.look),(11,.free),(12,.look),(15,.free),(16,.look),(2,.grow),(5,.grow),(6,.free),(9,.grow),(10,.free),(13,.grow),(14,.free),(17,.grow),(18,.free),(19,.free)] ?_)
    | (with_reducible refine wEI ?_;(first|(refine wEN ?_;skip)|(refine wEF rfl (fun K hK=>?_);go_simp)|(refine wEL rfl rfl (fun K hK=>?_);go_simp)|(refine wER rfl (fun K hK=>?_);go_simp)|(refine wEM rfl (fun K hK=>?_);go_simp;try refine ⟨_,_,⟨rfl,rfl⟩,?_⟩)|(refine wEG rfl (fun K hK=>?_);go_simp)|(refine wEA rfl (fun K hK=>?_);go_simp))))
  go_ret
  exact ⟨rfl,hF⟩
theorem isStruct_of {P : Program} {t : TypeId} (h : (match P.underlying t with|some (.struct _)=>true|_=>false) = true) : ∃ f,P.underlying t = some (.struct f):=by
  split at h
  · rename_i f hf;exact ⟨_,hf⟩
  · cases h
theorem spNewHead {n : Nat} (hn : n < 1000000000) (w : World) : Calls Tryz.prog 29 #[.int .u64 n] w fun e w'=>e = .returned (hdrA 0 0 51 n (51 + n)) ∧ Fr [] w w':=by
  have h1 : (n : Int) < 1000000000:=by omega
  go_enter Tryz.func29,Tryz.ntmps29
  go_wp2
  obtain ⟨fd,hu⟩:=isStruct_of (P:=Tryz.prog) (t:=33) (by kernel_rfl)
  refine bodyPost_ret (results_cell_row rfl _ _ w.heap.size 33 #[.int .u64 0,.int .u64 0,.int .u64 51,.int .u64 n,.int .u64 (51 + n)] (0,0) (.struct fd) rfl ?_ hu rfl (by kernel_rfl)) rfl ?_
  · exact heap_alloc_new _ _
  · exact ⟨by simp [hdrA],by exact frP⟩
def fileB (a b c d e : Nat) (data index : List UInt8) : List UInt8:=pragmaB ++ (hdrB a b c d e ++ (List.replicate (c - 51) 0 ++ (data ++ index)))
def fbRel (w : World) (base T c : Nat) (hc : List Value) (PP : List UInt8) (k : Nat) (s7 : Value) (wr : World) : Prop :=
  ∃ i,i + k = c - 51 ∧ OwnF base wr s7 (PP ++ List.replicate i 0) ∧ Blk wr T hc 33 (0,0) ∧ Fr [] w wr
set_option maxRecDepth 1000000 in
set_option maxHeartbeats 12800000 in
theorem spFile {w : World} {a b c d e : Nat} {data index : List UInt8} (hc : 51 ≤ c) (hc2 : c ≤ 1000) (hd : data.length ≤ 100000000) (hi : index.length ≤ 100000000) (he : e ≤ c + data.length) :
    Calls Tryz.prog 30 #[hdrA a b c d e,.string ⟨data.toArray⟩,.string ⟨index.toArray⟩] w fun e' w'=>e' = .returned (.string ⟨(fileB a b c d e data index).toArray⟩) ∧ Fr [] w w':=by
  have h1:=fun w=>spHeadBytes (w:=w) (a:=a) (b:=b) (c:=c) (d:=d) (e:=e)
  have hl:=hdrB_length a b c d e
  obtain ⟨H,hH⟩ : ∃ H,Hid (H = hdrB a b c d e):=⟨_,rfl⟩
  rw [← hH.out] at h1 hl
  have hl40 : H.length ≤ 40:=by omega
  have HL:=Lib.hid (And.intro hl (And.intro hd (And.intro hi he)))
  unfold hdrA at *
  clear hl hd hi he
  go_enter Tryz.func30,Tryz.ntmps30
  go_wp2_with (first
    | go_at_call 47;(with_reducible refine (h1 _).mono ?_);rintro e' w1 ⟨rfl,hF1⟩;have hT:=hF1.blk (b:=w.heap.size) (Blk.newAt rfl) (by simp);have tc:=hT.cells;have hF01 : Fr [] w w1:=Fr.trans (S:=[]) (by exact frP) hF1 (by simp);clear hF1 h1
    | ((with_reducible refine list_convert (fun K hK=>?_));  refine strF _ rfl w1.heap.size (Nat.le_refl _) (10 :: 161 :: 103 :: 118 :: 101 :: 114 :: 115 :: 105 :: 111 :: 110 :: 2 :: H) rfl (by simp;omega) (fun v2 w2 hO2 hF2=>?_)))
  have hB1 : w.heap.size < w1.heap.size:=hT.lt
  have hT2:=hF2.blk hT (by simp)
  have hF02:=hF01.trans hF2 (by simp)
  have hB2 : w1.heap.size ≤ w2.heap.size:=hF2.size
  clear hF01 hF2 hT tc
  obtain ⟨P,hP⟩ : ∃ P,Hid (P = 10 :: 161 :: 103 :: 118 :: 101 :: 114 :: 115 :: 105 :: 111 :: 110 :: 2 :: H):=⟨_,rfl⟩
  rw [← hP.out] at hO2
  have hPl : Hid (P.length = 51):=by show _ = _;rw [hP.out];have:=HL.out.1;simp;omega
  generalize w1.heap.size = B0 at *
  go_loopg [7] (c - 51) (fun k s7 wr=>fbRel w B0 w.heap.size c [.int .u64 a,.int .u64 b,.int .u64 c,.int .u64 d,.int .u64 e] P k s7 wr)
  case atStart=>exact ⟨0,by omega,by simpa using hO2,hT2,hF02⟩
  case round =>
    obtain ⟨i,hik,hO,hTr,hFr⟩:=hrel
    clear hO2 hT2 hF02
    have tc:=hTr.cells
    obtain ⟨g,cp,hv,hg,hB⟩:=hO.bs
    subst hv
    have hXl : (P ++ List.replicate i (0 : UInt8)).length = 51 + i:=by have:=hPl.out;simp;omega
    have hrs:=hFr.size
    have hTl:=hTr.lt
    have hBr : B0 ≤ wr.heap.size:=by have:=hB.lt;omega
    by_cases hi : i < c - 51
    · obtain ⟨X,hX⟩ : ∃ X,Hid (X = P ++ List.replicate i (0 : UInt8)):=⟨_,rfl⟩
      rw [← hX.out] at hO hXl hB ⊢
      have hz : (X.length : Int) < (c : Int):=by omega
      have wX : IntKind.u64.wrap (X.length : Int) = (X.length : Int):=by simp [IntKind.wrap,IntKind.bits,IntKind.signed];omega
      have HI:=Lib.hid (And.intro hik hXl)
      have hX9 : X.length < 2000:=by omega
      clear hik hXl
      go_wp2_with (first
        | ((with_reducible refine list_bi .append (fun K hK=>?_));  refine appF1 _ _ rfl B0 (.slice (some ⟨g,0,none⟩) X.length cp) X 0 rfl (hO.fr (S:=[]) (by exact frP) (by simp)) wr.heap.size 1 rfl (World.cell?_alloc_new _ _ _ 0) (by omega) (by simp;omega) (fun v5 w5 hO5 hF5=>?_)))
      go_roundg (c - 51 - (i + 1))
      case measure=>have:=HI.out;omega
      case rel =>
        have hF15:=Fr.trans (w:=wr) (Fr.alloc Fr.refl) hF5 (fun k hk _=>hk)
        refine ⟨i + 1,by have:=HI.out;omega,?_,hF15.blk hTr (by simp [Value.ownBlock];omega),?_⟩
        · rw [hX.out,List.append_assoc] at hO5
          rwa [show List.replicate (i + 1) (0 : UInt8) = List.replicate i 0 ++ [0] by simp [List.replicate_succ']]
        · refine hFr.trans hF15 ?_
          intro k hk hl
          simp [Value.ownBlock] at hk
          omega
    · have hie : i = c - 51:=by omega
      subst hie
      obtain ⟨X,hX⟩ : ∃ X,Hid (X = P ++ List.replicate (c - 51) (0 : UInt8)):=⟨_,rfl⟩
      rw [← hX.out] at hO hXl hB ⊢
      have hz : ¬ (X.length : Int) < (c : Int):=by omega
      have wX : IntKind.u64.wrap (X.length : Int) = (X.length : Int):=by simp [IntKind.wrap,IntKind.bits,IntKind.signed];omega
      have hXc : Hid (X.length = c):=by show _ = _;omega
      have hX9 : X.length < 2000:=by omega
      clear hik hXl
      go_wp2_with (first
        | ((with_reducible refine list_bi .append (fun K hK=>?_));  refine appFS _ _ rfl B0 (.slice (some ⟨g,0,none⟩) X.length cp) X data rfl hO rfl (by have:=HL.out;omega) (by omega) (fun v5 w5 hO5 hF5=>?_)))
      have hT5:=hF5.blk hTr (by simp [Value.ownBlock];omega)
      have tc5:=hT5.cells
      have hF05 : Fr [] w w5:=hFr.trans hF5 (by intro k hk hl;simp [Value.ownBlock] at hk;omega)
      have h5s:=hF5.size
      obtain ⟨g5,c5,hv5,hg5,hB5⟩:=hO5.bs
      subst hv5
      obtain ⟨Y,hY⟩ : ∃ Y,Hid (Y = X ++ data):=⟨_,rfl⟩
      rw [← hY.out] at hO5 hB5 ⊢
      have hYl : Hid (Y.length = c + data.length):=by show _ = _;rw [hY.out,List.length_append,hXc.out]
      have wY : IntKind.u64.wrap (Y.length : Int) = (Y.length : Int):=by have:=hYl.out;have:=HL.out;simp [IntKind.wrap,IntKind.bits,IntKind.signed];omega
      have hYe : ¬ (Y.length : Int) < (e : Int):=by have:=hYl.out;have:=HL.out;omega
      have hfin : X = P ++ List.replicate (c - 51) 0:=hX.out
      have hZ : fileB a b c d e data index = Y ++ index:=by
        unfold fileB
        rw [← hH.out,hY.out,hX.out,hP.out]
        simp [pragmaB]
      have HZ:=Lib.hid hZ
      clear tc hfin hZ hF5 hTr
      by_cases h0 : (e : Int) > 0
      · go_wp2_with (first
          | (with_reducible refine wp_loop_rounds 1 ?_);rw [rounds_succ]
          | ((with_reducible refine list_bi .append (fun K hK=>?_));  refine appFS _ _ rfl B0 (.slice (some ⟨g5,0,none⟩) Y.length c5) Y index rfl hO5 rfl (by have:=HL.out;have:=hYl.out;omega) (by omega) (fun v6 w6 hO6 hF6=>?_);obtain ⟨g6,c6,rfl,hg6,hB6⟩:=hO6.bs)
          | (with_reducible refine list_convert (fun K hK=>?_);  refine strOf _ rfl hB6 rfl rfl ?_))
        go_ret
        exact ⟨by rw [HZ.out];rfl,hF05.trans hF6 (by intro k hk hl;simp [Value.ownBlock] at hk;omega)⟩
      · go_wp2_with (first
          | (with_reducible refine wp_loop_rounds 1 ?_);rw [rounds_succ]
          | ((with_reducible refine list_bi .append (fun K hK=>?_));  refine appFS _ _ rfl B0 (.slice (some ⟨g5,0,none⟩) Y.length c5) Y index rfl hO5 rfl (by have:=HL.out;have:=hYl.out;omega) (by omega) (fun v6 w6 hO6 hF6=>?_);obtain ⟨g6,c6,rfl,hg6,hB6⟩:=hO6.bs)
          | (with_reducible refine list_convert (fun K hK=>?_);  refine strOf _ rfl hB6 rfl rfl ?_))
        go_ret
        exact ⟨by rw [HZ.out];rfl,hF05.trans hF6 (by intro k hk hl;simp [Value.ownBlock] at hk;omega)⟩
end Go.Proofs.Wx

namespace Go.Proofs.Wx
open Go Go.RowKit
theorem pgB_eq : pragmaB = Lib.uvarint pgB.length ++ pgB:=by
  have h : pgB = [161,103,118,101,114,115,105,111,110,2]:=by decide
  rw [h,Lib.uvarint_small (by decide)];rfl
theorem readPragma {ea : Addr} {w : World} {r sb : Nat} {xs rest : List UInt8} (h : Rdr w r sb xs 0) (hx : xs = pragmaB ++ rest) (hG : Gl ea w) :
    Calls Tryz.prog 88 #[.iface 74 (.pointer (some ⟨r,0,none⟩)),.int .u64 33554432] w fun e w' =>
      ∃ p hv,e = .returned (.tuple #[.pointer (some ⟨p,0,none⟩),.nilIface]) ∧ w.heap.size ≤ p ∧ Blk w' p [hv,.int .u64 2] 182 (0,0) ∧ Rdr w' r sb xs 11 ∧ Fr [r] w w':=by
  have hlen : pgB.length = 10:=by decide
  have hul : (Lib.uvarint pgB.length).length = 1:=by rw [hlen,Lib.uvarint_small (by decide)];rfl
  have hlt:=h.lt
  have hge:=h.ge
  have hgs:=hG.size
  have hrd:=ldRead (n:=pgB.length) (rest:=pgB ++ rest) h (by rw [hx,pgB_eq];simp) 33554432 (by omega) (by omega) false (by omega) (by simp)
  rw [List.take_left,hul,hlen] at hrd
  have hdec:=fun (w' : World) (b hb : Nat) (hv : Value) (hB : Blk w' b (by8 pgB) 5 (0,0)) (hH : Blk w' hb [hv,.int .u64 (0 : Nat)] 182 (0,0)) hne (hG : Gl ea w') hg=>zzDecodePragma (v:=.slice (some ⟨b,0,none⟩) 10 10) (xs:=pgB) (by simp [pgB]) (Sl.mk (Blk.bs (pre:=[]) (post:=[]) hB (by simp) rfl) (by rw [hlen];exact Nat.le_refl _) (by omega) (by rw [hlen])) hH hne hG hg
  clear hx
  generalize pgB = X at *
  go_enter Tryz.func88,Tryz.ntmps88
  go_wp2_with (first
    | go_at_call 121;refine hrd.mono ?_;rintro e w1 ⟨b,rfl,hb1,hR1,hB1,hF1⟩;have hG1:=hG.fr hF1 (by simp;omega);have hbl:=hB1.lt;have hsz1:=hF1.size;have hrl1:=hR1.lt
    | go_at_call 122;refine (hdec _ b w1.heap.size _ hB1.alloc (Blk.new (cs:=[_,_])) (by omega) (hG1.fr (S:=[]) (by exact frP) (by simp)) (by omega)).mono ?_;rintro e w2 ⟨hv,rfl,hH2,hF2⟩)
  go_ret2
  exact ⟨w1.heap.size,hv,rfl,hF1.size,hH2,hR1.fr (S:=[]) (Fr.trans (S:=[]) (S':=[w1.heap.size]) (by exact frP) hF2 (by simp)) (by simp) (by simp),hF1.trans (Fr.trans (S:=[]) (S':=[w1.heap.size]) (by exact frP) hF2 (by simp)) (by simp)⟩
theorem readVersion2 {ea : Addr} {w : World} {r sb B b : Nat} {xs rest : List UInt8} (h : Rdr w r sb xs 0) (hO : OptsAt w B b) (hx : xs = pragmaB ++ rest) (hG : Gl ea w) :
    Calls Tryz.prog 69 #[.iface 74 (.pointer (some ⟨r,0,none⟩)),.slice (some ⟨B,0,none⟩) 8 8] w fun e w' =>
      e = .returned (.tuple #[.int .u64 2,.nilIface]) ∧ Rdr w' r sb xs 11 ∧ Fr [r] w w':=by
  have hlt:=h.lt
  have hge:=h.ge
  have hgs:=hG.size
  have hao:=applyOptions hO
  go_enter Tryz.func69,Tryz.ntmps69
  go_wp2_with (first
    | go_at_call 49;refine hao.mono ?_;rintro e w1 ⟨rfl,hF1⟩;have hs1:=hF1.size
    | go_at_call 88;refine (readPragma (h.fr (S:=[]) (Fr.trans (S:=[]) (S':=[]) hF1 (Fr.alloc Fr.refl) (by simp)) (by simp) (by simp)) hx (hG.fr (S:=[]) (Fr.trans (S:=[]) (S':=[]) hF1 (Fr.alloc Fr.refl) (by simp)) (by simp))).mono ?_;rintro e w2 ⟨p,hv,rfl,hp,hH2,hR2,hF2⟩;have hc2:=hH2.cells)
  go_ret2
  exact ⟨rfl,hR2,Fr.trans (S:=[r]) (S':=[r]) (Fr.trans (S:=[r]) (S':=[]) (hF1.mono (by simp)) (Fr.alloc Fr.refl) (by simp)) hF2 (by simp)⟩
end Go.Proofs.Wx
