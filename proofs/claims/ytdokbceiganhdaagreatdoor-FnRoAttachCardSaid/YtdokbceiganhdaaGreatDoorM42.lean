import Derived.Test.YtdokbceiganhdaaGreatDoorM2
import Derived.Test.YtdokbceiganhdaaGreatDoorM6
import Derived.Test.YtdokbceiganhdaaGreatDoorM9
import Derived.Test.YtdokbceiganhdaaGreatDoorM13
import Derived.Test.YtdokbceiganhdaaGreatDoorM35
import Derived.Test.YtdokbceiganhdaaGreatDoorM36
import Derived.Test.YtdokbceiganhdaaGreatDoorM41
import Derived.Defers
import Derived.Recover
set_option maxRecDepth 100000
set_option maxHeartbeats 1000000
set_option linter.unusedVariables false
set_option linter.unusedSimpArgs false
set_option linter.deprecated false
set_option linter.all false
set_option linter.unusedSectionVars false
namespace Go.Proofs.Wx
open Go Go.RowKit
abbrev tOW : TypeId:=201
/-- What the file in memory holds when ys has been written at B0. -/
def owC (zs : List UInt8) (B0 : Nat) (ys : List UInt8) : List UInt8:=if ys = [] then zs else zs ++ List.replicate (B0 - zs.length) 0 ++ ys
theorem owC_len {zs : List UInt8} {B0 : Nat} {ys : List UInt8} (hz : zs.length ≤ B0) : (owC zs B0 ys).length ≤ B0 + ys.length:=by
  unfold owC
  split
  · omega
  · simp;omega
theorem owC_add {zs : List UInt8} {B0 : Nat} {ys xs : List UInt8} (hz : zs.length ≤ B0) (hx : xs ≠ []) :
    owC zs B0 ys ++ List.replicate (B0 + ys.length - (owC zs B0 ys).length) 0 ++ xs = owC zs B0 (ys ++ xs):=by
  by_cases hy : ys = []
  · subst hy;simp [owC,hx]
  · have h1 : (zs ++ List.replicate (B0 - zs.length) 0 ++ ys).length = B0 + ys.length:=by simp;omega
    simp only [owC,hy,hx,List.append_eq_nil_iff,if_false,false_and]
    rw [h1];simp
def OwK (o m base B0 : Nat) (zs : List UInt8) (w : World) (v : Value) (ys : List UInt8) : Prop :=
  Blk w o [.iface 89 (.pointer (some ⟨m,0,none⟩)),.int .i64 B0,.int .i64 (B0 + ys.length : Nat)] 280 (0,0) ∧ Blk w m [v,.int .i64 0] tMem (0,0) ∧ OwnF base w v (owC zs B0 ys) ∧ v.ownBlock ≠ some m ∧ v.ownBlock ≠ some o
@[go_sem] theorem ahead_mem_WriteAt (a : Addr) (w : World) : (nilAhead 615 89 (.pointer (some a)) "WriteAt").run Tryz.prog w = .ok (some false) w := by kernel_rfl
@[go_sem] theorem meth_mem_WriteAt (a : Addr) (w : World) : (method 615 89 (.pointer (some a)) "WriteAt").run Tryz.prog w = .ok (275, .pointer (some a)) w := by kernel_rfl
set_option maxRecDepth 1000000 in
set_option maxHeartbeats 12800000 in
theorem owWrite {w : World} {o m base B0 b so n c2 : Nat} {zs ys xs : List UInt8} {v : Value} (hz : zs.length ≤ B0) (hB0 : B0 ≤ 2000000) (hom : o ≠ m) (hK : OwK o m base B0 zs w v ys) (hX : Bs w b so xs) (hn : xs.length = n) (h0 : 0 < n) (hbo : b ≠ o) (hbm : b ≠ m) (hbv : v.ownBlock ≠ some b) (hlen : ys.length + n < 10000000) (hbase : base ≤ w.heap.size) :
    Calls Tryz.prog 358 #[.pointer (some ⟨o,0,none⟩),.slice (some ⟨b,so,none⟩) n c2] w fun e w'=>e = .returned (.tuple #[.int .i64 n,.nilIface]) ∧
      ∃ v',OwK o m base B0 zs w' v' (ys ++ xs) ∧ (v'.ownBlock = v.ownBlock ∨ ∃ k,v'.ownBlock = some k ∧ w.heap.size ≤ k) ∧ Fr (o :: m :: v.ownBlock.toList) w w':=by
  obtain ⟨hO,hM,hV,hvm,hvo⟩:=hK
  have hL:=owC_len (ys:=ys) hz
  have hc:=fun w' (hF : Fr [] w w')=>memWriteAtG (sc:=c2) (o:=B0 + ys.length) (hF.blk hM (by simp)) (hV.fr hF (by simp)) rfl hL (by omega) hvm (Nat.le_trans hbase hF.size) (hX.fr hF (by simp)) hn (by omega) h0 hbm hbv
  simp only [owC_add hz (List.length_pos_iff.1 (show 0 < xs.length by omega))] at hc
  have hoc:=hO.cells
  have hnz : (n : Int) ≤ 10000000:=by omega
  have hyz : ((B0 + ys.length : Nat) : Int) ≤ 13000000:=by omega
  have hol:=hO.lt
  have hml:=hM.lt
  have H:=Lib.hid (And.intro hO (And.intro hn hvo))
  obtain ⟨q,hq⟩ : ∃ q,q = B0 + ys.length:=⟨_,rfl⟩
  simp only [← hq] at hc hoc hyz
  have HQ:=Lib.hid hq
  clear hL hq hO hM hV hX hn hlen
  go_enter Tryz.func358,Tryz.ntmps358
  go_wp2_with (first
    | go_at_call 275;refine (hc _ (by exact frP)).mono ?_;rintro e w1 ⟨rfl,v1,hP1,hO1,ho1',hF1'⟩;have ho1 : v1.ownBlock = v.ownBlock ∨ ∃ k,v1.ownBlock = some k ∧ w.heap.size ≤ k:=ho1';clear ho1';clear hoc;have hF1:=Fr.trans (w:=w) (S:=m :: v.ownBlock.toList) (by exact frP) hF1' (fun k hk _=>hk);clear hF1';have hOw1:=hF1.blk H.out.1 (by simp;exact ⟨hom,H.out.2.2⟩);have pc1:=hOw1.cells;have pf1:=hOw1.free;rw [← HQ.out] at hOw1 pc1
    | (refine wre 1 [(0,.free),(1,.free),(2,.free),(3,.look),(4,.free),(5,.free),(6,.free),(7,.free),(8,.look),(9,.free),(10,.free),(11,.act),(12,.free),(13,.free),(14,.free),(15,.free),(16,.free)] ?_)
    | (with_reducible refine wEI ?_;(first|(refine wEN ?_;skip)|(refine wEF rfl (fun K hK=>?_);go_simp)|(refine wEL rfl rfl (fun K hK=>?_);go_simp)|(refine wER rfl (fun K hK=>?_);go_simp)|(refine wEM rfl (fun K hK=>?_);go_simp;try refine ⟨_,_,⟨rfl,rfl⟩,?_⟩)|(refine wEG rfl (fun K hK=>?_);go_simp)|(refine wEA rfl (fun K hK=>?_);go_simp))))
  go_ret2
  have hv1 : v1.ownBlock ≠ some o:=by
    rcases ho1 with h|⟨k,h,h2⟩
    · rw [h];exact H.out.2.2
    · rw [h];intro e;cases e;omega
  have hv2 : v1.ownBlock ≠ some m:=by
    rcases ho1 with h|⟨k,h,h2⟩
    · rw [h];exact hvm
    · rw [h];intro e;cases e;omega
  refine ⟨rfl,v1,⟨?_,?_,?_,hv2,hv1⟩,ho1,?_⟩
  · exact Blk.conv hOw1.set (by have:=HQ.out;have:=H.out.2.1;simp;omega)
  · exact Blk.setNe (by simp;exact hom) hP1
  · exact hO1.fr (S:=[o]) (Fr.setCell (by simp) Fr.refl) (by simp;exact .inr hv1)
  · exact Fr.setCell (by simp) (hF1.mono (by intro k hk;simp at hk ⊢;rcases hk with h|h <;> simp [h]))
/-- It is a writer. -/
theorem owSnk {o m base B0 : Nat} {zs : List UInt8} (hz : zs.length ≤ B0) (hB0 : B0 ≤ 2000000) (hom : o ≠ m) : Snk tOW ⟨o,0,none⟩ [o,m] base (OwK o m base B0 zs) 358 where
  ahead _:=by kernel_rfl
  meth _:=by kernel_rfl
  enter _ _:=by kernel_rfl
  lt h k hk:=by simp at hk;rcases hk with rfl|rfl;exact h.1.lt;exact h.2.1.lt
  own h k hk:=by obtain ⟨g,c,e,h1,h2,_⟩:=h.2.2.1.form;rw [e] at hk;cases hk;exact ⟨h1,h2⟩
  keep h hf hS:=⟨hf.blk h.1 (fun hm=>(hS _ hm).1 (by simp)),hf.blk h.2.1 (fun hm=>(hS _ hm).1 (by simp)),h.2.2.1.fr hf (fun k hk=>(hS k hk).2),h.2.2.2⟩
  write hK hB hn h0 hbp hbv hfirst hlen hbase:=by
    refine (owWrite hz hB0 hom hK hB hn h0 (fun e=>hbp (by simp [e])) (fun e=>hbp (by simp [e])) hbv hlen hbase).mono ?_
    rintro e w' ⟨h1,v',h2,h3,h4⟩
    exact ⟨h1,v',h2,h3,by simpa using h4⟩
end Go.Proofs.Wx

namespace Go.Proofs.Wx
open Go Go.RowKit
set_option maxRecDepth 1000000 in
set_option maxHeartbeats 12800000 in
theorem mhEncode {w : World} {code b so cp : Nat} {dig : List UInt8} (hS : Bs w b so dig) (hc : code < 9223372036854775808) (hd : dig.length ≤ 200) (hcp : dig.length ≤ cp) :
    Calls Tryz.prog 106 #[.slice (some ⟨b,so,none⟩) dig.length cp,.int .u64 code] w fun e w'=>∃ g,e = .returned (.tuple #[.slice (some ⟨g,0,none⟩) (mhB code dig).length (mhB code dig).length,.nilIface]) ∧ w.heap.size ≤ g ∧ Bs w' g 0 (mhB code dig) ∧ Fr [] w w':=by
  have h1:=fun w=>uvSize (x:=code) (by omega) w
  have h2:=fun w=>uvSize (x:=dig.length) (by omega) w
  have l1:=uv9 hc
  have l2:=uv2 (n:=dig.length) (by omega)
  have hbl:=hS.lt
  have wL : IntKind.u64.wrap (dig.length : Int) = (dig.length : Int):=by simp [IntKind.wrap,IntKind.bits,IntKind.signed];omega
  obtain ⟨A,hA⟩ : ∃ A,Hid (A = Lib.uvarint code):=⟨_,rfl⟩
  obtain ⟨B,hB⟩ : ∃ B,Hid (B = Lib.uvarint dig.length):=⟨_,rfl⟩
  have hM : Hid (mhB code dig = A ++ B ++ dig):=by show _ = _;rw [hA.out,hB.out];simp [mhB]
  have p1:=fun (w1 : World) (g n c : Nat) (cs : List Value) (hg : Blk w1 g cs 5 (0,0))=>putUvO (o:=0) (n:=n) (c:=c) (x:=code) (by omega) hg
  have p2:=fun (w1 : World) (g o n c : Nat) (cs : List Value) (hg : Blk w1 g cs 5 (0,0))=>putUvO (o:=o) (n:=n) (c:=c) (x:=dig.length) (by omega) hg
  rw [← hA.out] at l1
  rw [← hB.out] at l2
  simp only [← hA.out,← hB.out] at h1 h2 p1 p2
  obtain ⟨na,hna⟩ : ∃ na,na = A.length:=⟨_,rfl⟩
  obtain ⟨nb,hnb⟩ : ∃ nb,nb = B.length:=⟨_,rfl⟩
  obtain ⟨nd,hnd⟩ : ∃ nd,nd = dig.length:=⟨_,rfl⟩
  simp only [← hna,← hnb,← hnd] at h1 h2 p1 p2 l1 l2 hd hcp wL ⊢
  have hMl : (mhB code dig).length = na + nb + nd:=by rw [hM.out];simp;omega
  rw [hMl,hM.out]
  obtain ⟨M,hM2⟩ : ∃ M : Nat,(na : Int) + (nb : Int) = (M : Int):=⟨na + nb,by simp⟩
  obtain ⟨N,hN2⟩ : ∃ N : Nat,(M : Int) + (nd : Int) = (N : Int):=⟨M + nd,by simp⟩
  have hMN : M = na + nb:=by omega
  have hNM : N = M + nd:=by omega
  rw [show na + nb + nd = N by omega]
  have hna0 : 0 < na:=by rw [hna,hA.out];exact Lib.uvarint_pos _
  have hnb0 : 0 < nb:=by rw [hnb,hB.out];exact Lib.uvarint_pos _
  have hn1 : ¬ N = na:=by omega
  have hz1 : (na : Int) ≤ (N : Int):=by omega
  have hz2 : (M : Int) ≤ (N : Int):=by omega
  have hz3 : (N : Int) ≤ 300:=by omega
  have w1 : IntKind.i64.wrap (M : Int) = (M : Int):=by simp [IntKind.wrap,IntKind.bits,IntKind.signed];omega
  have w2 : IntKind.i64.wrap (N : Int) = (N : Int):=by simp [IntKind.wrap,IntKind.bits,IntKind.signed];omega
  have HN:=Lib.hid (And.intro hna (And.intro hnb (And.intro hnd (And.intro hMN (And.intro hNM (And.intro l1 (And.intro l2 hd)))))))
  have h3 : ∀ (w' : World) (g : Nat) (cs : List Value),(∃ cs0 cs1,Blk w' g cs 5 (0,0) ∧ cs = lay cs1 M dig ∧ cs1 = lay cs0 na B ∧ cs0 = lay (List.replicate N (.int .u8 0)) 0 A) → Bs w' g 0 (A ++ B ++ dig):=by
    rintro w' g cs ⟨cs0,cs1,hb,rfl,rfl,rfl⟩
    refine Blk.bsAll hb ?_
    have e0 : List.replicate N (Value.int .u8 0) = by8 [] ++ List.replicate N (.int .u8 0):=by simp [by8]
    have e1 : lay (List.replicate N (Value.int .u8 0)) 0 A = by8 A ++ List.replicate (N - na) (.int .u8 0):=by
      have:=lay_step (A:=[]) (B:=A) (k:=N) (by omega)
      rw [← e0] at this
      simpa [← hna] using this
    rw [e1,hna,lay_step (by omega),hMN,hna,hnb,← List.length_append,lay_step (by omega)]
    rw [show N - A.length - B.length - dig.length = 0 by omega]
    simp
  have H3:=Lib.hid h3
  clear hna hnb hnd hMl hMN hNM l1 l2 hd h3 hnb0 hna0
  by_cases h0 : nd = 0
  · have hdg : dig = []:=List.eq_nil_of_length_eq_zero (by have:=HN.out;omega)
    have e : N = M:=by have:=HN.out;omega
    subst e
    have HZ:=Lib.hid hdg
    clear hdg h0
    go_enter Tryz.func106,Tryz.ntmps106
    go_wp2_with (first
      | go_at_call 129;first|((with_reducible refine (h1 _).mono ?_);rintro e wa ⟨rfl,hFa⟩)|((with_reducible refine (h2 _).mono ?_);rintro e wb ⟨rfl,hFb⟩;have hFab:=hFa.trans hFb (by simp);have hsb:=hFab.size)
      | ((with_reducible refine list_makeSlice (fun K hK=>?_));  refine makeBk _ _ rfl _ _ _ _ N N wb.heap.size rfl rfl rfl rfl (by omega) (by omega) rfl (fun w1 hg1 hF1=>?_))
      | go_at_call 104;first|((with_reducible refine (p1 _ wb.heap.size N N _ hg1 (by omega) (by have:=HN.out;simp;omega)).mono ?_);rintro e w3 ⟨rfl,hg3,hF3⟩;have hl3 : (lay (List.replicate N (Value.int .u8 0)) 0 A).length = N:=(by rw [lay_length (by have:=HN.out;simp;omega)];simp))|((with_reducible refine (p2 _ wb.heap.size na (N - na) (N - na) _ hg3 (by have:=HN.out;omega) (by have:=HN.out;rw [hl3];omega)).mono ?_);rintro e w4 ⟨rfl,hg4,hF4⟩;have hl4 : (lay (lay (List.replicate N (Value.int .u8 0)) 0 A) na B).length = N:=(by rw [lay_length (by have:=HN.out;rw [hl3];omega)];exact hl3);have hF14:=(hF1.mono (by simp)).trans (hF3.trans hF4 (S:=[wb.heap.size]) (by simp)) (S:=[wb.heap.size]) (by simp);have hF04 : Fr [] w w4:=hFab.trans hF14 (by simp;omega);have hS4:=hS.fr hF04 (by simp))
      | (with_reducible refine list_bi .copy (fun K hK=>?_);  refine copyB _ _ 76 76 rfl 5 (by kernel_rfl) (by kernel_rfl) wb.heap.size 0 0 0 b so nd cp rfl rfl _ 5 (by exact blkP) [] ⟨hS4.lt,fun k hk=>by simp at hk⟩ (by simp) (by simp) (fun w5 hg5 hF5=>?_)))
    go_ret2
    refine ⟨wb.heap.size,rfl,hsb,H3.out _ _ _ ⟨_,_,hg5,?_,rfl,rfl⟩,hF04.trans hF5 (by simp;omega)⟩
    rw [HZ.out];simp [lay,by8]
  · have hn2 : ¬ N = M:=by omega
    have HZ:=Lib.hid h0
    clear h0
    go_enter Tryz.func106,Tryz.ntmps106
    go_wp2_with (first
      | go_at_call 129;first|((with_reducible refine (h1 _).mono ?_);rintro e wa ⟨rfl,hFa⟩)|((with_reducible refine (h2 _).mono ?_);rintro e wb ⟨rfl,hFb⟩;have hFab:=hFa.trans hFb (by simp);have hsb:=hFab.size)
      | ((with_reducible refine list_makeSlice (fun K hK=>?_));  refine makeBk _ _ rfl _ _ _ _ N N wb.heap.size rfl rfl rfl rfl (by omega) (by omega) rfl (fun w1 hg1 hF1=>?_))
      | go_at_call 104;first|((with_reducible refine (p1 _ wb.heap.size N N _ hg1 (by omega) (by have:=HN.out;simp;omega)).mono ?_);rintro e w3 ⟨rfl,hg3,hF3⟩;have hl3 : (lay (List.replicate N (Value.int .u8 0)) 0 A).length = N:=(by rw [lay_length (by have:=HN.out;simp;omega)];simp))|((with_reducible refine (p2 _ wb.heap.size na (N - na) (N - na) _ hg3 (by have:=HN.out;omega) (by have:=HN.out;rw [hl3];omega)).mono ?_);rintro e w4 ⟨rfl,hg4,hF4⟩;have hl4 : (lay (lay (List.replicate N (Value.int .u8 0)) 0 A) na B).length = N:=(by rw [lay_length (by have:=HN.out;rw [hl3];omega)];exact hl3);have hF14:=(hF1.mono (by simp)).trans (hF3.trans hF4 (S:=[wb.heap.size]) (by simp)) (S:=[wb.heap.size]) (by simp);have hF04 : Fr [] w w4:=hFab.trans hF14 (by simp;omega);have hS4:=hS.fr hF04 (by simp))
      | (with_reducible refine list_bi .copy (fun K hK=>?_);  refine copyB _ _ 76 76 rfl 5 (by kernel_rfl) (by kernel_rfl) wb.heap.size M (N - M) (N - M) b so nd cp rfl rfl _ 5 (by exact blkP) dig (by first|exact hS4|exact hS4.drew) (by have:=HN.out;rw [show N - M = nd by omega];exact this.2.2.1.symm.trans (Nat.min_self _).symm) (by have:=HN.out;rw [hl4];omega) (fun w5 hg5 hF5=>?_)))
    go_ret2
    exact ⟨wb.heap.size,rfl,hsb,H3.out _ _ _ ⟨_,_,hg5,rfl,rfl,rfl⟩,hF04.trans hF5 (by simp;omega)⟩

theorem mh_und : Tryz.prog.underlying 262 = some (.slice 5):=by kernel_rfl
/-- string(multihash). -/
theorem strOfM {o : Oper} {a : Act} {K : Act → World → Prop} {Q : Exit → Act → World → Prop} {w : World} (x : Operand) (hop : o.op = .convert 262 9 x)
    {b off n c : Nat} {xs : List UInt8} (hB : Bs w b off xs) (hn : n = xs.length) (hx : a.eval x = .slice (some ⟨b,off,none⟩) n c) (h : K (a.put o.dst (.string ⟨xs.toArray⟩)) w) : o.wp Tryz.prog a w K Q:=by
  subst hn
  have hr : (convert 262 9 (.slice (some ⟨b,off,none⟩) xs.length c)).run Tryz.prog w = .ok (.string ⟨xs.toArray⟩) w :=
    run_convert_bytes_back w _ _ 5 _ _ xs mh_und (by kernel_rfl) (by kernel_rfl) (fun j hj=>by rw [Addr.add_lit];exact hB.cell j hj)
  unfold Oper.wp execOp
  simp only [hop,hx,Sem.run_bind,hr,Result.andThen_ok,Sem.run_pure]
  exact h
theorem loadCid {w : World} {g : Nat} {v : Value} {T : TypeId} {fr : Nat × Nat} (hB : Blk w g [v] T fr) : (loadVar 116 ⟨g,0,none⟩).run Tryz.prog w = .ok (.agg #[v]) w:=by
  obtain ⟨fd,hu⟩:=struct_of (P:=Tryz.prog) (t:=116) (by kernel_rfl)
  exact run_loadVar_row w g T _ #[v] fr (.struct fd) hB hu rfl (by kernel_rfl)
theorem resC {fn : Func} {p : Tmp} (h : fn.results = #[.cell p 116]) (tmps : Array Value) {w : World} {g : Nat} {v : Value} {T : TypeId} {fr : Nat × Nat} (hp : tmps.getD p undef = .pointer (some ⟨g,0,none⟩)) (hB : Blk w g [v] T fr) :
    (results fn tmps).run Tryz.prog w = .ok (.agg #[v]) w:=by
  have hp' : tmps[p]?.getD undef = .pointer (some ⟨g,0,none⟩):=by simpa using hp
  simp [results,h,hp',asAddr,loadCid hB]
theorem resCT {fn : Func} {p u : Tmp} (h : fn.results = #[.cell p 116,.tmp u]) (tmps : Array Value) {w : World} {g : Nat} {v x : Value} {T : TypeId} {fr : Nat × Nat} (hp : tmps.getD p undef = .pointer (some ⟨g,0,none⟩)) (hx : tmps.getD u undef = x) (hB : Blk w g [v] T fr) :
    (results fn tmps).run Tryz.prog w = .ok (.tuple #[.agg #[v],x]) w:=by
  have hp' : tmps[p]?.getD undef = .pointer (some ⟨g,0,none⟩):=by simpa using hp
  have hx' : tmps[u]?.getD undef = x:=by simpa using hx
  simp [results,h,hp',hx',asAddr,loadCid hB]
theorem newCidV0 {w : World} {g : Nat} {dig : List UInt8} (hS : Bs w g 0 (mhB 18 dig)) (hd : dig.length = 32) :
    Calls Tryz.prog 130 #[.slice (some ⟨g,0,none⟩) (mhB 18 dig).length (mhB 18 dig).length] w fun e w'=>e = .returned (.tuple #[.agg #[.string ⟨(mhB 18 dig).toArray⟩],.nilIface]) ∧ Fr [] w w':=by
  have hl : (mhB 18 dig).length ≤ 1000:=by simp [mhB,hd,Lib.uvarint_small]
  have hde:=fun (w' : World) (hS' : Bs w' g 0 (mhB 18 dig))=>mhDecodeP (v:=.slice (some ⟨g,0,none⟩) (mhB 18 dig).length (mhB 18 dig).length) (Sl.mk hS' (Nat.le_refl _) (by omega) rfl) (by omega) (by omega)
  have hgl:=hS.lt
  generalize mhB 18 dig = X at *
  go_enter Tryz.func130,Tryz.ntmps130
  go_wp2_with (first
    | go_at_call 149;refine (hde _ (hS.fr (S:=[]) (by exact frP) (by simp))).mono ?_;rintro e w1 ⟨p,rfl,hp,⟨v,hD,hSd⟩,hF1⟩;rw [hd] at hD;have dc:=hD.cells;have hS1:=hS.fr (S:=[]) (Fr.trans (S:=[]) (by exact frP) hF1 (by simp)) (by simp);have hZ:=hF1.blk (b:=w.heap.size) (cs:=[.string ⟨#[]⟩]) (T:=116) (fr:=(0,0)) Blk.new (by simp);have zc:=hZ.cells;have zf:=hZ.free
    | (with_reducible refine list_convert (fun K hK=>?_);  refine strOfM _ rfl hS1 rfl rfl ?_))
  refine bodyPost_ret (resCT rfl _ rfl rfl (hZ.set (o:=0) (v:=.string ⟨X.toArray⟩))) rfl ?_
  exact ⟨rfl,Fr.trans (S:=[]) (S':=[w.heap.size]) (by exact frP) (Fr.trans (S:=[w.heap.size]) (S':=[w.heap.size]) (hF1.mono (by simp)) (Fr.setCell (by simp) Fr.refl) (by simp)) (by simp)⟩
end Go.Proofs.Wx

namespace Go.Proofs.Wx
open Go Go.RowKit
theorem newCidV0K {w : World} {g : Nat} {dig : List UInt8} (hS : Bs w g 0 (mhB 18 dig)) (hd : dig.length = 32) :
    Calls Tryz.prog 107 #[.slice (some ⟨g,0,none⟩) (mhB 18 dig).length (mhB 18 dig).length] w fun e w'=>e = .returned (.agg #[.string ⟨(mhB 18 dig).toArray⟩]) ∧ Fr [] w w':=by
  have hgl:=hS.lt
  have hc:=fun (w' : World) (hS' : Bs w' g 0 (mhB 18 dig))=>newCidV0 hS' hd
  generalize mhB 18 dig = X at *
  go_enter Tryz.func107,Tryz.ntmps107
  go_wp2_with (first
    | go_at_call 130;refine (hc _ (hS.fr (S:=[]) (by exact frP) (by simp))).mono ?_;rintro e w1 ⟨rfl,hF1⟩;have hZ:=hF1.blk (b:=w.heap.size) (cs:=[.string ⟨#[]⟩]) (T:=116) (fr:=(0,0)) Blk.new (by simp);have zc:=hZ.cells;have zf:=hZ.free;have hzl:=hZ.lt)
  refine bodyPost_ret (resC rfl _ rfl (Blk.alloc (Blk.set (o:=0) (v:=.string ⟨X.toArray⟩) hZ))) rfl ?_
  exact ⟨rfl,Fr.trans (S:=[]) (S':=[w.heap.size]) (by exact frP) (Fr.alloc (Fr.setCell (by simp) (hF1.mono (by simp)))) (by simp)⟩
abbrev tSB : TypeId:=275
/-- The builder in block b holds xs. -/
def Bd (w : World) (B b : Nat) (xs : List UInt8) : Prop:=Lib.BuilderAt tSB 5 B b (.pointer (some ⟨b,0,none⟩)) (by8 xs) w
theorem Bd.mk {w : World} {B b : Nat} {xs : List UInt8} {v : Value} (hB : B ≤ b) (hb : Blk w b [.pointer (some ⟨b,0,none⟩),v] tSB (0,0)) (hO : OwnB B w v xs) (hn : v.ownBlock ≠ some b) : Bd w B b xs:=⟨hB,v,hb,by simpa [by8_length] using hO,hn⟩
theorem Bd.out {w : World} {B b : Nat} {xs : List UInt8} (h : Bd w B b xs) : ∃ v,B ≤ b ∧ Blk w b [.pointer (some ⟨b,0,none⟩),v] tSB (0,0) ∧ OwnB B w v xs ∧ v.ownBlock ≠ some b:=by
  obtain ⟨hB,v,hb,hO,hn⟩:=h
  exact ⟨v,hB,hb,by simpa [by8_length] using hO,hn⟩
theorem Bd.fr {w w' : World} {B b : Nat} {xs : List UInt8} {S : List Nat} (h : Bd w B b xs) (hf : Fr S w w') (hS : ∀ k ∈ S,w.heap.size ≤ k) : Bd w' B b xs:=by
  obtain ⟨v,hB,hb,hO,hn⟩:=h.out
  refine Bd.mk hB (hf.blk hb (fun hm=>by have:=hS _ hm;have:=hb.lt;omega)) (hO.fr hf fun k hk=>.inr fun e=>?_) hn
  have h1:=hS k hk
  rcases hO.2 with ⟨rfl,_⟩|⟨g,cap,cur,rfl,_,hg,_⟩
  · simp [Value.ownBlock] at e
  · have:=(Array.getElem?_eq_some_iff.1 hg).1
    simp [Value.ownBlock] at e;omega
theorem below_of {B : Nat} {w w' : World} {S : List Nat} (h : Fr S w w') (hS : ∀ k ∈ S,B ≤ k) (hB : B ≤ w.heap.size) : Below B w w' :=
  ⟨h.os,h.tape,h.output,h.size,fun k hk=>h.block k (by omega) (fun hm=>by have:=hS _ hm;omega)⟩
theorem own_neT {w : World} {B b g n c : Nat} {cs : List Value} {xs : List UInt8} (hO : OwnB B w (.slice (some ⟨g,0,none⟩) n c) xs) (hb : Blk w b cs tSB (0,0)) : g ≠ b:=fun e=>by
  subst e
  obtain ⟨g,cap,cur,e7,_,hg7,_⟩:=hO.2.resolve_left (by rintro ⟨h,_⟩;cases h)
  cases e7
  have h2:=hb.symm.trans hg7
  injection h2 with h2
  injection h2 with _ h2 _
  exact absurd h2 (by decide)
theorem Bs.below {w w' : World} {B b o : Nat} {xs : List UInt8} (h : Bs w b o xs) (hB : Below B w w') (hb : b < B) : Bs w' b o xs :=
  ⟨Nat.lt_of_lt_of_le h.lt hB.size,fun k hk=>by rw [hB.cell (p:=⟨b,o + k,none⟩) hb];exact h.cell k hk⟩
theorem Blk.below {w w' : World} {B b : Nat} {cs : List Value} {T : TypeId} {fr : Nat × Nat} (h : Blk w b cs T fr) (hB : Below B w w') (hb : b < B) : Blk w' b cs T fr:=by
  unfold Blk;rw [hB.block b hb];exact h
theorem bdCheck (b : Nat) (w : World) (h0 : w.cell? ⟨b,0,none⟩ = some (.pointer (some ⟨b,0,none⟩))) :
    Calls Tryz.prog 152 #[.pointer (some ⟨b,0,none⟩)] w fun e w'=>e = .returned (.tuple #[]) ∧ w' = w :=
  Any.Builder_copyCheck_used { Tryz.lays165 with } (Tryz.Builder_Extra_165).toX72 b w h0
theorem bdByte {w : World} {B b : Nat} {xs : List UInt8} {x : UInt8} (h : Bd w B b xs) (hl : xs.length < 100000) (hBw : B ≤ w.heap.size) :
    Calls Tryz.prog 132 #[.pointer (some ⟨b,0,none⟩),.int .u8 (x.toNat : Nat)] w fun e w'=>e = .returned .nilIface ∧ Bd w' B b (xs ++ [x]) ∧ Below B w w':=by
  obtain ⟨v,hB,hb,hO,hn⟩:=h.out
  have hbl:=hb.lt
  have hc:=hb.cells
  have hck:=fun (w1 : World) (h : w1 = w)=>bdCheck b w1 (by rw [h];exact hc 0)
  have hv : ∀ k ∈ v.ownBlock.toList,B ≤ k:=own_ge hO
  go_enter Tryz.func132,Tryz.ntmps132
  go_wp2_with (first
    | go_at_call 152;refine (hck _ rfl).mono ?_;rintro e w1 ⟨rfl,rfl⟩
    | ((with_reducible refine list_bi .append (fun K hK=>?_));  refine app1 _ _ rfl B v xs rfl (hO.fr (S:=[]) (by exact frP) (by simp)) w1.heap.size 1 rfl x _ rfl (World.cell?_alloc_new _ _ _ 0) (by omega) (by simp;omega) (fun v6 w6 hO6 hF6=>?_);have hF16:=Fr.trans (w:=w1) (S:=v.ownBlock.toList) (by exact frP) hF6 (fun k hk _=>hk);have hb6:=hF16.blk hb (by simpa using hn);have bc6:=hb6.cells;have bf6:=hb6.free;obtain ⟨g6,c6,e6,hg6,hB6⟩:=ownB_row hO6 (by simp);subst e6))
  go_ret
  have hgb:=own_neT hO6 hb6
  refine ⟨rfl,Bd.mk (v:=.slice (some ⟨g6,0,none⟩) (xs ++ [x]).length c6) hB (Blk.conv (hb6.set (o:=1)) (by simp)) (hO6.fr (S:=[b]) (Fr.setCell (by simp) Fr.refl) (by simp;exact .inr (by simp [Value.ownBlock];exact hgb))) (by simp [Value.ownBlock];exact hgb),?_⟩
  exact below_of (S:=b :: v.ownBlock.toList) (Fr.setCell (by simp) (hF16.mono (fun k hk=>List.mem_cons_of_mem _ hk))) (by intro k hk;rcases List.mem_cons.1 hk with rfl|hk;exact hB;exact hv k hk) hBw

theorem bdWrite {w : World} {B b sb so n c : Nat} {xs ys : List UInt8} (h : Bd w B b xs) (hS : Bs w sb so ys) (hn' : ys.length = n) (h0 : xs ≠ []) (hl : xs.length < 100000) (hl2 : n < 100000) (hBw : B ≤ w.heap.size) :
    Calls Tryz.prog 133 #[.pointer (some ⟨b,0,none⟩),.slice (some ⟨sb,so,none⟩) n c] w fun e w'=>e = .returned (.tuple #[.int .i64 n,.nilIface]) ∧ Bd w' B b (xs ++ ys) ∧ Below B w w':=by
  obtain ⟨v,hB,hb,hO,hn⟩:=h.out
  have hbl:=hb.lt
  have hc:=hb.cells
  have hck:=fun (w1 : World) (h : w1 = w)=>bdCheck b w1 (by rw [h];exact hc 0)
  have hv : ∀ k ∈ v.ownBlock.toList,B ≤ k:=own_ge hO
  have HS:=Lib.hid (And.intro hS hn')
  clear hS hn'
  go_enter Tryz.func133,Tryz.ntmps133
  go_wp2_with (first
    | go_at_call 152;refine (hck _ rfl).mono ?_;rintro e w1 ⟨rfl,rfl⟩
    | ((with_reducible refine list_bi .append (fun K hK=>?_));  refine appOwn _ _ 76 rfl B 5 (.int .u8 0) 1 1 u8_slice u8_info rfl (by omega) v xs.length (by8 xs) rfl (hO.fr (S:=[]) (by exact frP) (by simp)) ⟨sb,so,none⟩ n c (by8 ys) rfl (by rw [by8_length,HS.out.2,Nat.mul_one]) (fun j u hu=>by have hj : j < ys.length:=(by have:=(List.getElem?_eq_some_iff.1 hu).1;rwa [by8_length] at this);rw [by8_at _ _ hj] at hu;rw [← hu,Addr.add_lit];exact HS.out.1.cell j hj) (by8_one ys) (by omega) (by omega) (by first|exact hBw|(simp;omega)) (fun v6 w6 hO6' hF6=>?_);have hO6 : OwnB B w6 v6 (xs ++ ys):=(by have:=hO6';rw [← HS.out.2,← by8_append] at this;simpa [OwnB] using this);have hF16:=Fr.trans (w:=w1) (S:=v.ownBlock.toList) (by exact frP) hF6 (fun k hk _=>hk);have hb6:=hF16.blk hb (by simpa using hn);have bc6:=hb6.cells;have bf6:=hb6.free;obtain ⟨g6,c6,e6,hg6,hB6⟩:=ownB_row hO6 (by simp [h0]);subst e6;have hgb:=own_neT hO6 hb6;clear hO6'))
  go_ret2
  refine ⟨rfl,Bd.mk (v:=.slice (some ⟨g6,0,none⟩) (xs ++ ys).length c6) hB (Blk.conv (hb6.set (o:=1)) (by simp)) (hO6.fr (S:=[b]) (Fr.setCell (by simp) Fr.refl) (by simp;exact .inr (by simp [Value.ownBlock];exact hgb))) (by simp [Value.ownBlock];exact hgb),?_⟩
  exact below_of (S:=b :: v.ownBlock.toList) (Fr.setCell (by simp) (hF16.mono (fun k hk=>List.mem_cons_of_mem _ hk))) (by intro k hk;rcases List.mem_cons.1 hk with rfl|hk;exact hB;exact hv k hk) hBw
theorem newCidV1K {w : World} {g codec code : Nat} {dig : List UInt8} (hS : Bs w g 0 (mhB code dig)) (hc : codec < 9223372036854775808) (hl : (mhB code dig).length ≤ 300) :
    Calls Tryz.prog 108 #[.int .u64 codec,.slice (some ⟨g,0,none⟩) (mhB code dig).length (mhB code dig).length] w fun e w'=>e = .returned (.agg #[.string ⟨(1 :: (Lib.uvarint codec ++ mhB code dig)).toArray⟩]) ∧ Fr [] w w':=by
  have hgl:=hS.lt
  have hu:=fun w=>uvSize (x:=codec) (by omega) w
  have l9:=uv9 hc
  have hpu:=fun (w1 : World) (p : Nat) (hp : Blk w1 p (List.replicate 10 (.int .u8 0)) 278 (0,0))=>putUvO (o:=0) (n:=10) (c:=10) (x:=codec) (by omega) hp (by omega) (by simp;omega)
  have hby:=fun (w1 : World) (b : Nat) (h : Bd w1 (w.heap.size + 1) b []) (hb : w.heap.size + 1 ≤ w1.heap.size)=>bdByte (x:=1) h (by simp) hb
  rw [show (((1 : UInt8).toNat : Nat) : Int) = 1 from rfl] at hby
  generalize mhB code dig = X at *
  generalize Lib.uvarint codec = U at *
  have hwu:=fun (w1 : World) (b p : Nat) (h : Bd w1 (w.heap.size + 1) b [1]) (hS : Bs w1 p 0 U) (hb : w.heap.size + 1 ≤ w1.heap.size)=>bdWrite (c:=10) h hS rfl (by simp) (by simp) (by omega) hb
  have hwx:=fun (w1 : World) (b : Nat) (h : Bd w1 (w.heap.size + 1) b ([1] ++ U)) (hS : Bs w1 g 0 X) (hb : w.heap.size + 1 ≤ w1.heap.size)=>bdWrite (c:=X.length) h hS rfl (by simp) (by simp;omega) (by omega) hb
  have hst:=fun (w1 : World) (b : Nat) (h : Bd w1 (w.heap.size + 1) b ([1] ++ U ++ X)) (hb : w.heap.size + 1 ≤ w1.heap.size)=>Tryz.Builder_String_any (w.heap.size + 1) b ([1] ++ U ++ X) w1 (.inr h) hb
  have hgr:=fun (w1 : World) (b n : Nat) (hb : w.heap.size + 1 ≤ b) (hB : Blk w1 b [.pointer none,.slice none 0 0] tSB (0,0)) (hn : n ≤ 281474976710656)=>Tryz.Builder_Grow_fresh (w.heap.size + 1) b n w1 hb hB (by have:=hB.lt;omega) hn
  obtain ⟨Y,hY⟩ : ∃ Y,Hid (Y = [1] ++ U ++ X):=⟨_,Lib.hid rfl⟩
  rw [show 1 :: (U ++ X) = [1] ++ U ++ X by simp,← hY.out]
  rw [← hY.out] at hst
  have hus : U.length ≤ 10:=by omega
  have HU:=Lib.hid (And.intro hus (And.intro hl hS))
  generalize hnu : U.length = nu at *
  generalize hnx : X.length = nx at *
  obtain ⟨n1,hn1⟩ : ∃ n1 : Nat,(1 : Int) + (nu : Int) = (n1 : Int):=⟨1 + nu,by simp⟩
  obtain ⟨n2,hn2⟩ : ∃ n2 : Nat,(n1 : Int) + (nx : Int) = (n2 : Int):=⟨n1 + nx,by simp⟩
  have w1 : IntKind.i64.wrap (n1 : Int) = (n1 : Int):=by simp [IntKind.wrap,IntKind.bits,IntKind.signed];omega
  have w2 : IntKind.i64.wrap (n2 : Int) = (n2 : Int):=by simp [IntKind.wrap,IntKind.bits,IntKind.signed];omega
  have hn2b : n2 ≤ 1000:=by omega
  have HN:=Lib.hid (And.intro hnu hnx)
  have hnuz : (nu : Int) ≤ 10:=by omega
  clear hnu hnx hS hl
  go_enter Tryz.func108,Tryz.ntmps108
  go_wp2_with (first
    | go_at_call 129;refine (hu _).mono ?_;rintro e wa ⟨rfl,hF1⟩;have hZ1:=hF1.blk (b:=w.heap.size) (cs:=[.string ⟨#[]⟩]) (T:=116) (fr:=(0,0)) (Blk.alloc Blk.new) (by simp);have hb1:=hF1.blk (b:=w.heap.size + 1) (cs:=[.pointer none,.slice none 0 0]) (T:=tSB) (fr:=(0,0)) (Blk.newAt (by simp)) (by simp);have hw1 : Fr [] w wa:=Fr.trans (S:=[]) (by exact frP) hF1 (by simp);have hs1:=hb1.lt
    | go_at_call 131;refine (hgr _ _ n2 (Nat.le_refl _) hb1 (by omega)).mono ?_;rintro e wb ⟨rfl,hB2,hF2⟩;have hs2:=hF2.size
    | go_at_call 132;refine (hby _ _ hB2 (by omega)).mono ?_;rintro e wc ⟨rfl,hB3,hF3⟩;have hs3:=hF3.size;have hF13:=hF2.trans hF3;have H3:=Lib.hid (And.intro hB3 hF13);clear hB2 hB3 hF2 hF3 hF13
    | go_at_call 104;refine (hpu _ wc.heap.size (Blk.newAt rfl)).mono ?_;rintro e wd ⟨rfl,hP4,hF4⟩;have hF34 : Fr [wc.heap.size] wc wd:=Fr.trans (S:=[wc.heap.size]) (by exact frP) hF4 (fun k hk _=>hk);have hs4:=hF34.size;have hB4:=H3.out.1.fr hF34 (by simp);have hP4' : Bs wd wc.heap.size 0 U:=Blk.bs (pre:=[]) (post:=List.drop U.length (List.replicate 10 (.int .u8 0))) hP4 (by simp [lay]) rfl;have hF14:=H3.out.2.trans (below_of hF34 (by simp;omega) (by omega));have H4:=Lib.hid (And.intro hB4 (And.intro hP4' hF14));clear hP4 hF4 hF34 hB4 hP4' hF14
    | go_at_call 133;first|((with_reducible refine (hwu _ _ wc.heap.size H4.out.1 H4.out.2.1 (by omega)).mono ?_);rintro e we ⟨rfl,hB5,hF5⟩;have hs5:=hF5.size;have hF15:=H4.out.2.2.trans hF5;have hX5:=(HU.out.2.2.fr hw1 (by simp)).below hF15 (by omega);have H5:=Lib.hid (And.intro hB5 (And.intro hF15 hX5));clear hB5 hF5 hF15 hX5)|((with_reducible refine (hwx _ _ H5.out.1 H5.out.2.2 (by omega)).mono ?_);rintro e wf ⟨rfl,hB6,hF6⟩;have hs6:=hF6.size;have hF16:=H5.out.2.1.trans hF6;have H6:=Lib.hid (And.intro hB6 hF16);clear hB6 hF6 hF16)
    | go_at_call 134;refine (hst _ _ (by rw [hY.out];exact H6.out.1) (by omega)).mono ?_;rintro e wg ⟨rfl,hF7⟩;have hF17:=H6.out.2.trans hF7;have hZ7:=Blk.below hZ1 hF17 (by omega);have zc:=hZ7.cells;have zf:=hZ7.free)
  refine bodyPost_ret (resC rfl _ rfl (hZ7.set (o:=0) (v:=.string ⟨Y.toArray⟩))) rfl ?_
  have hw7 : Fr [] w wg:=⟨hF17.os.trans hw1.os,hF17.tape.trans hw1.tape,hF17.output.trans hw1.output,Nat.le_trans hw1.size hF17.size,fun k hk hn=>(hF17.block k (by omega)).trans (hw1.block k hk hn)⟩
  exact ⟨rfl,Fr.trans (S:=[]) (S':=[w.heap.size]) hw7 (Fr.setCell (by simp) Fr.refl) (by simp)⟩
end Go.Proofs.Wx

namespace Go.Proofs.Wx
open Go Go.RowKit
theorem cidIdle (p q : Addr) (w : World) :
    CallsD Tryz.prog 105 #[.pointer (some p),.pointer (some q)] .returning w fun e u' w'=>e = .returned (.tuple #[]) ∧ u' = .returning ∧ w' = w:=by
  refine callsD_of_wpS Tryz.func105 rfl fun c₀ cs hu=>?_
  apply wpS_seq
  apply wpS_region
  simp [wpOpsS,go_sem,recoverD,hu,Tryz.ntmps105,Exit.thenS]
  refine wpS_cond (t:=false) (by simp [Act.eval,Array.replicate]) ?_
  simp only [Bool.false_eq_true,if_false]
  refine wpS_of_wp (wp_skip ?_)
  cases c₀
  simp_all [bodyPostS,results,Tryz.results105]
/-- Where no operation of a region panics. -/
def NoP (Q : Exit → Act → World → Prop) : Exit → Act → World → Prop:=fun e a w=>match e with|.panic _=>False|e=>Q e a w
instance {Q : Exit → Act → World → Prop} : Keeps (NoP Q) where
  keep:=fun _ _ _ _ _ h=>h
theorem region_noP {Q : Exit → Act → World → Prop} {c : Code} {a : Act} {w : World} (h : c.wp Tryz.prog (NoP Q) a w) : c.wp Tryz.prog Q a w :=
  Code.wp_mono (fun e a w h=>by cases e <;> first|exact h|exact h.elim) h
theorem wpET_nilN {Q : Exit → Act → World → Prop} {ops : Array Oper} {a : Act} {w : World} (h : Q .normal a w) : wpET Tryz.prog none ops (NoP Q) .nil a w:=h
theorem loadBool {w : World} {g : Nat} {v : Value} {T : TypeId} {fr : Nat × Nat} (hB : Blk w g [v] T fr) : (loadVar 4 ⟨g,0,none⟩).run Tryz.prog w = .ok v w:=by
  have h:=hB.cell 0
  have ha : (isAgg 4).run Tryz.prog w = .ok false w:=by kernel_rfl
  simp [loadVar,Sem.run_bind,ha,Result.andThen,Sem.run,h]
theorem resCC {fn : Func} {p q : Tmp} (h : fn.results = #[.cell p 116,.cell q 4]) (tmps : Array Value) {w : World} {g g2 : Nat} {v x : Value} {T T2 : TypeId} {fr fr2 : Nat × Nat} (hp : tmps.getD p undef = .pointer (some ⟨g,0,none⟩)) (hq : tmps.getD q undef = .pointer (some ⟨g2,0,none⟩)) (hB : Blk w g [v] T fr) (hC : Blk w g2 [x] T2 fr2) :
    (results fn tmps).run Tryz.prog w = .ok (.tuple #[.agg #[v],x]) w:=by
  have hp' : tmps[p]?.getD undef = .pointer (some ⟨g,0,none⟩):=by simpa using hp
  have hq' : tmps[q]?.getD undef = .pointer (some ⟨g2,0,none⟩):=by simpa using hq
  simp [results,h,hp',hq',asAddr,loadCid hB,loadBool hC]
set_option maxRecDepth 1000000 in
set_option maxHeartbeats 12800000 in
theorem cidInK {w : World} {c : CidM} (hok : c.Ok) : Calls Tryz.prog 65 #[.agg #[.int .u64 c.v,.int .u64 c.codec,.int .u64 c.code,.string ⟨c.dig.toArray⟩]] w fun e w'=>e = .returned (.tuple #[cidV c,.bool true]) ∧ Fr [] w w':=by
  have hmf : ∀ (fn : Fn) (first cap : Array Value) (w : World),(Instr.makeFunc fn first cap).run Tryz.prog w = .ok (.func fn first cap) w:=fun _ _ _ _=>rfl
  have hdl:=hok.len
  have hcl:=hok.code_lt
  have hml:=hok.mh_le
  have hen:=fun (w1 : World) (b C : Nat) (hS : Bs w1 b 0 c.dig) (hC : c.dig.length ≤ C)=>mhEncode (code:=c.code) hS hcl hdl hC
  rcases hok.kind with ⟨h0,h1,h2,h3⟩|⟨h0,h1,h2⟩
  · have hb : c.bytes = mhB 18 c.dig:=by unfold CidM.bytes;rw [if_pos h0,h2]
    have hz : ((c.v : Nat) : Int) = 0:=by omega
    have hz2 : ((c.codec : Nat) : Int) = 112:=by omega
    have hv0:=fun (w1 : World) (g : Nat) (hS : Bs w1 g 0 (mhB 18 c.dig))=>newCidV0K hS h3
    rw [h2] at hen
    show Calls _ _ _ _ fun e w'=>e = .returned (.tuple #[.agg #[.string ⟨c.bytes.toArray⟩],.bool true]) ∧ _
    rw [hb]
    have hz3 : ((c.code : Nat) : Int) = 18:=by omega
    rw [h2] at hz3
    rw [h2]
    generalize c.v = v at *
    generalize c.codec = cd at *
    generalize c.dig = dig at *
    have HD3:=Lib.hid h3
    simp only [show ((18 : Nat) : Int) = 18 from rfl] at hen
    clear hb h0 h2 h3
    obtain ⟨X,hX⟩ : ∃ X,Hid (X = mhB 18 dig):=⟨_,Lib.hid rfl⟩
    simp only [← hX.out] at hv0 hen
    rw [← hX.out]
    go_enter_defers Tryz.func65,Tryz.ntmps65
    go_wp2_with (first
      | ((with_reducible refine list_convert (fun K hK=>?_));  refine strB _ rfl dig rfl (by omega) (fun w2 C hC1 hC2 hB2 hF2=>?_);have hT2:=hF2.blk (b:=w.heap.size) (cs:=[.int .u64 0,.int .u64 112,.int .u64 18,.string ⟨dig.toArray⟩]) (T:=49) (fr:=(0,0)) (Blk.alloc (Blk.alloc Blk.new)) (by simp);have tc2:=hT2.cells;have hP2:=hF2.blk (b:=w.heap.size + 1) (cs:=[.string ⟨#[]⟩]) (T:=116) (fr:=(0,0)) (Blk.alloc (Blk.newAt (by simp))) (by simp);have hQ2:=hF2.blk (b:=w.heap.size + 1 + 1) (cs:=[.bool false]) (T:=4) (fr:=(0,0)) (Blk.newAt (by simp)) (by simp);have hF02 : Fr [] w w2:=Fr.trans (S:=[]) (by exact frP) hF2 (by simp);have hs2:=hQ2.lt;simp only [World.size_alloc] at hB2;have H2:=Lib.hid (And.intro hT2 (And.intro hP2 (And.intro hQ2 (And.intro hB2 hF02))));clear hT2 hP2 hQ2 hB2 hF2 hF02)
      | go_at_call 106;(with_reducible refine (hen _ _ C H2.out.2.2.2.1 hC1).mono ?_);rintro e w3 ⟨g,rfl,hg3,hS3,hF3⟩;have hT3:=hF3.blk H2.out.1 (by simp);have tc3:=hT3.cells;have hP3:=hF3.blk H2.out.2.1 (by simp);have hQ3:=hF3.blk H2.out.2.2.1 (by simp);have hF03:=H2.out.2.2.2.2.trans hF3 (S:=[]) (by simp);have H3:=Lib.hid (And.intro hT3 (And.intro hS3 (And.intro hP3 (And.intro hQ3 hF03))));clear hT3 hS3 hF3 tc2 hP3 hQ3 hF03)
    refine region_noP ?_
    refine wp_region_tree mixed (fun i=>if i = 0 ∨ i = 2 ∨ i = 4 then .free else .act)
      (.one 0 .free (.one 2 .free (.two 1 .act (.two 3 .act (.one 4 .free (.one 5 .act (.one 6 .act .nil))) 5 .act (.one 3 .act (.one 4 .free (.one 6 .act .nil)))) 3 .act (.one 4 .free (.one 1 .act (.one 5 .act (.one 6 .act .nil))))))) (by kernel_rfl) ?_
    go_wp2_with (first
      | (go_at_call 107;(with_reducible refine (hv0 _ g H3.out.2.1.drew).mono ?_);rintro e w4 ⟨rfl,hF4'⟩;have hF4 : Fr [] w3 w4:=Fr.trans (S:=[]) (Fr.drew Fr.refl) hF4' (by simp);have tc4:=(hF4.blk H3.out.1 (by simp)).cells;have hP4:=hF4.blk H3.out.2.2.1 (by simp);have hQ4:=hF4.blk H3.out.2.2.2.1 (by simp);have pc4:=hP4.cells;have pf4:=hP4.free;have qc4:=hQ4.cells;have qf4:=hQ4.free;have hF04:=H3.out.2.2.2.2.trans hF4 (by simp);have H4:=Lib.hid (And.intro hP4 (And.intro hQ4 hF04));clear hP4 hQ4 hF04 hF4 hF4')
      | (with_reducible refine wpET_id ?_;(first|(refine wpET_nilN ?_;skip)|(refine wpET_free rfl rfl (fun K hK=>?_);go_simp;try refine ⟨_,⟨fun _=>rfl,?_⟩⟩)|(refine wpET_act rfl rfl (fun K hK=>?_);go_simp)|(refine wpET_two ?_ ?_)))
      | (with_reducible refine eOp_id ?_;(refine eOp_act rfl rfl (fun K hK=>?_);go_simp)))
    all_goals
      obtain ⟨hP4,hQ4,hF4⟩:=H4.out
      refine leaves_cons (f:=105) (args:=#[.pointer (some ⟨w.heap.size + 1,0,none⟩),.pointer (some ⟨w.heap.size + 1 + 1,0,none⟩)]) (by simp) (by simp [go_sem]) ?_
      refine (cidIdle _ _ _).mono ?_
      rintro e u' w'' ⟨rfl,rfl,rfl⟩
      exact ⟨_,resCC rfl _ rfl rfl (Blk.setNe (by simp) (hP4.set (o:=0))) (Blk.set (o:=0) (Blk.setNe (by simp) hQ4)),rfl,Fr.setCell (by simp;omega) (Fr.setCell (by simp) hF4)⟩
  · have hb:=CidM.bytes1 h0
    have hz : ((c.v : Nat) : Int) = 1:=by omega
    have hv1:=fun (w1 : World) (g : Nat) (hS : Bs w1 g 0 (mhB c.code c.dig))=>newCidV1K (codec:=c.codec) hS h1 (by omega)
    show Calls _ _ _ _ fun e w'=>e = .returned (.tuple #[.agg #[.string ⟨c.bytes.toArray⟩],.bool true]) ∧ _
    rw [hb]
    generalize c.v = v at *
    generalize c.codec = cd at *
    generalize c.code = code at *
    generalize c.dig = dig at *
    clear hb h0
    obtain ⟨X,hX⟩ : ∃ X,Hid (X = mhB code dig):=⟨_,Lib.hid rfl⟩
    obtain ⟨Y,hY⟩ : ∃ Y,Hid (Y = 1 :: (Lib.uvarint cd ++ mhB code dig)):=⟨_,Lib.hid rfl⟩
    simp only [← hY.out] at hv1
    simp only [← hX.out] at hv1 hen
    rw [← hY.out]
    go_enter_defers Tryz.func65,Tryz.ntmps65
    go_wp2_with (first
      | ((with_reducible refine list_convert (fun K hK=>?_));  refine strB _ rfl dig rfl (by omega) (fun w2 C hC1 hC2 hB2 hF2=>?_);have hT2:=hF2.blk (b:=w.heap.size) (cs:=[.int .u64 1,.int .u64 cd,.int .u64 code,.string ⟨dig.toArray⟩]) (T:=49) (fr:=(0,0)) (Blk.alloc (Blk.alloc Blk.new)) (by simp);have tc2:=hT2.cells;have hP2:=hF2.blk (b:=w.heap.size + 1) (cs:=[.string ⟨#[]⟩]) (T:=116) (fr:=(0,0)) (Blk.alloc (Blk.newAt (by simp))) (by simp);have hQ2:=hF2.blk (b:=w.heap.size + 1 + 1) (cs:=[.bool false]) (T:=4) (fr:=(0,0)) (Blk.newAt (by simp)) (by simp);have hF02 : Fr [] w w2:=Fr.trans (S:=[]) (by exact frP) hF2 (by simp);have hs2:=hQ2.lt;simp only [World.size_alloc] at hB2;have H2:=Lib.hid (And.intro hT2 (And.intro hP2 (And.intro hQ2 (And.intro hB2 hF02))));clear hT2 hP2 hQ2 hB2 hF2 hF02)
      | go_at_call 106;(with_reducible refine (hen _ _ C H2.out.2.2.2.1 hC1).mono ?_);rintro e w3 ⟨g,rfl,hg3,hS3,hF3⟩;have hT3:=hF3.blk H2.out.1 (by simp);have tc3:=hT3.cells;have H3:=Lib.hid (And.intro hT3 (And.intro hS3 hF3));clear hT3 hS3 hF3 tc2
      | go_at_call 108;(with_reducible refine (hv1 _ g H3.out.2.1).mono ?_);rintro e w4 ⟨rfl,hF4⟩;have hF24:=H3.out.2.2.trans hF4 (S:=[]) (by simp);have hP4:=hF24.blk H2.out.2.1 (by simp);have hQ4:=hF24.blk H2.out.2.2.1 (by simp);have pc4:=hP4.cells;have pf4:=hP4.free;have qc4:=hQ4.cells;have qf4:=hQ4.free;have hF04:=H2.out.2.2.2.2.trans hF24 (by simp);have H4:=Lib.hid (And.intro hP4 (And.intro hQ4 hF04));clear hP4 hQ4 hF04 hF24 hF4)
    obtain ⟨hP4,hQ4,hF4⟩:=H4.out
    refine leaves_cons (f:=105) (args:=#[.pointer (some ⟨w.heap.size + 1,0,none⟩),.pointer (some ⟨w.heap.size + 1 + 1,0,none⟩)]) (by simp) (by simp [go_sem]) ?_
    refine (cidIdle _ _ _).mono ?_
    rintro e u' w'' ⟨rfl,rfl,rfl⟩
    exact ⟨_,resCC rfl _ rfl rfl (Blk.setNe (by simp) (hP4.set (o:=0))) (Blk.set (o:=0) (Blk.setNe (by simp) hQ4)),rfl,Fr.setCell (by simp;omega) (Fr.setCell (by simp) hF4)⟩
end Go.Proofs.Wx
