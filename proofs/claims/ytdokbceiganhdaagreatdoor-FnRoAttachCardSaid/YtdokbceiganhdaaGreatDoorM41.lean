import Derived.Test.YtdokbceiganhdaaGreatDoorM8
import Derived.Test.YtdokbceiganhdaaGreatDoorM37
import Derived.Test.YtdokbceiganhdaaGreatDoorM40
set_option maxRecDepth 100000
set_option maxHeartbeats 1000000
set_option linter.unusedVariables false
set_option linter.unusedSimpArgs false
set_option linter.deprecated false
set_option linter.all false
set_option linter.unusedSectionVars false
namespace Go.Proofs.Wx
open Go Go.RowKit
theorem memSize {w : World} {p n : Nat} {v at_ : Value} {g c : Nat} (hP : Blk w p [v,at_] tMem (0,0)) (hv : v = .slice (some ⟨g,0,none⟩) n c) :
    Calls Tryz.prog 271 #[.pointer (some ⟨p,0,none⟩)] w fun e w'=>e = .returned (.int .i64 n) ∧ Fr [] w w':=by
  subst hv
  have hpc:=hP.cells
  go_enter Tryz.func271,Tryz.ntmps271
  go_wp2
  go_ret
  exact ⟨rfl,Fr.refl⟩
@[go_sem] theorem ahead_mem_Write (a : Addr) (w : World) : (nilAhead 615 89 (.pointer (some a)) "Write").run Tryz.prog w = .ok (some false) w := by kernel_rfl
@[go_sem] theorem meth_mem_Write (a : Addr) (w : World) : (method 615 89 (.pointer (some a)) "Write").run Tryz.prog w = .ok (273, .pointer (some a)) w := by kernel_rfl
@[go_sem] theorem ahead_mem_Size (a : Addr) (w : World) : (nilAhead 615 89 (.pointer (some a)) "Size").run Tryz.prog w = .ok (some false) w := by kernel_rfl
@[go_sem] theorem meth_mem_Size (a : Addr) (w : World) : (method 615 89 (.pointer (some a)) "Size").run Tryz.prog w = .ok (271, .pointer (some a)) w := by kernel_rfl
abbrev MEMI (p : Nat) : Value:=.iface 89 (.pointer (some ⟨p,0,none⟩))
end Go.Proofs.Wx

namespace Go.Proofs.Wx
open Go Go.RowKit
end Go.Proofs.Wx

namespace Go.Proofs.Wx
open Go Go.RowKit
end Go.Proofs.Wx

namespace Go.Proofs.Wx
open Go Go.RowKit
theorem spPaddedG {w : World} {n d i : Nat} (hn : n ≤ 1700000) (hd : d ≤ 255) (hi : i ≤ 255) : Calls Tryz.prog 28 #[hdrA 0 0 51 n (51 + n),.int .u64 d,.int .u64 i] w fun e w'=>e = .returned (hdrA 0 0 (51 + d) n (51 + n + (d + i))) ∧ Fr [] w w':=by
  have h1 : (n : Int) ≤ 1700000:=by omega
  have h2 : (d : Int) ≤ 255:=by omega
  have h3 : (i : Int) ≤ 255:=by omega
  go_enter Tryz.func28,Tryz.ntmps28
  go_wp2
  obtain ⟨fd,hu⟩:=isStruct_of (P:=Tryz.prog) (t:=33) (by kernel_rfl)
  refine bodyPost_ret (results_cell_row rfl _ _ (w.heap.size + 1) 33 #[.int .u64 0,.int .u64 0,.int .u64 (51 + d),.int .u64 n,.int .u64 (51 + n + (d + i))] (0,0) (.struct fd) rfl ?_ hu rfl (by kernel_rfl)) rfl ?_
  · have hB : Blk ((w.alloc (.cells #[.int .u64 0,.int .u64 0,.int .u64 (51 + d),.int .u64 n,.int .u64 (51 + n + (d + i))] 33)).alloc (.cells #[.int .u64 0,.int .u64 0,.int .u64 (51 + d),.int .u64 n,.int .u64 (51 + n + (d + i))] 33)) (w.heap.size + 1) [.int .u64 0,.int .u64 0,.int .u64 (51 + d),.int .u64 n,.int .u64 (51 + n + (d + i))] 33 (0,0):=Blk.newAt (by simp)
    exact hB
  · exact ⟨by first|(simp [hdrA];done)|(simp [hdrA];omega),by exact frP⟩
set_option maxRecDepth 1000000 in
set_option maxHeartbeats 12800000 in
theorem spWrFileG {w : World} {ra ba : Option Addr} {rc bc d : Nat} {c : CarM} (h : CarAt w ra ba c) (hok : c.Ok) (hd : d ≤ 255) :
    Calls Tryz.prog 11 #[carA ra ba rc bc c,.int .u64 0,.int .u8 d,.int .u8 0] w fun e w'=>e = .returned (.string ⟨(fileB 0 0 (51 + d) c.bytes.length 0 c.bytes []).toArray⟩) ∧ Fr [] w w':=by
  obtain ⟨xs,hxs⟩ : ∃ xs,Hid (xs = c.bytes):=⟨_,rfl⟩
  have hCar:=fun (w' : World) (hF : Fr [] w w')=>spCar1 (rc:=rc) (bc:=bc) (h.ext (Fr.ext hF)) hok
  obtain ⟨n,hn⟩ : ∃ n,Hid (n = xs.length):=⟨_,rfl⟩
  have hl:=hok.length.1
  rw [← hxs.out,← hn.out] at hl ⊢
  have hnh:=fun w=>spNewHead (n:=n) (by omega) w
  have hpd:=fun w=>spPaddedG (w:=w) (n:=n) (d:=d) (i:=0) (by omega) hd (by omega)
  have hfb:=fun w=>spFile (w:=w) (a:=0) (b:=0) (c:=51 + d) (d:=n) (e:=0) (data:=xs) (index:=[]) (by omega) (by omega) (by rw [← hn.out];omega) (by simp) (by omega)
  have HCar:=Lib.hid hCar
  have HP:=Lib.hid (And.intro hnh (And.intro hpd hfb))
  have hlz : (n : Int) ≤ 1700000:=by omega
  have hdz : (d : Int) ≤ 255:=by omega
  have hwx : IntKind.u64.wrap (xs.length : Int) = (n : Int):=by rw [← hn.out,IntKind.wrap_u64];omega
  clear hCar hnh hpd hfb
  go_enter Tryz.func11,Tryz.ntmps11
  go_wp2_with (first
    | go_at_call 8;refine (HCar.out _ (by exact frP)).mono ?_;rw [← hxs.out];rintro e w1 ⟨rfl,hF1⟩;have hF01 : Fr [] w w1:=Fr.trans (S:=[]) (by exact frP) hF1 (by simp);clear hF1
    | go_at_call 29;refine (HP.out.1 _).mono ?_;rintro e w2 ⟨rfl,hF2⟩;have hF02 : Fr [] w w2:=Fr.trans (S:=[]) hF01 hF2 (by simp)
    | go_at_call 28;refine (HP.out.2.1 _).mono ?_;rintro e w3 ⟨rfl,hF3⟩;have hF03 : Fr [] w w3:=Fr.trans (S:=[]) (by exact frP) hF3 (by simp)
    | go_at_call 30;refine (HP.out.2.2 _).mono ?_;rintro e w4 ⟨rfl,hF4⟩)
  go_ret
  exact ⟨rfl,Fr.trans (S:=[]) (S':=[]) (by exact frP) hF4 (by simp)⟩
end Go.Proofs.Wx

namespace Go.Proofs.Wx
open Go Go.RowKit
theorem resS {fn : Func} {p : Tmp} {ty : TypeId} (hs : isStruct Tryz.prog ty = true) (h : fn.results = #[.cell p ty]) (tmps : Array Value) {w : World} {g : Nat} {cs : List Value} {T : TypeId} {fr : Nat × Nat} (hp : tmps.getD p undef = .pointer (some ⟨g,0,none⟩)) (hB : Blk w g cs T fr) (hi : (Tryz.prog.info? ty).map (·.size) = some cs.length) :
    (results fn tmps).run Tryz.prog w = .ok (.agg cs.toArray) w:=by
  obtain ⟨fd,hu⟩:=struct_of hs
  exact results_cell_row h _ _ g T cs.toArray fr (.struct fd) hp hB hu rfl (by simpa using hi)
theorem headOutC {w : World} {a b c d e : Nat} : Calls Tryz.prog 23 #[hdrA a b c d e] w fun r w'=>r = .returned (hdrA a b c d e) ∧ Fr [] w w':=by
  go_enter Tryz.func23,Tryz.ntmps23
  go_wp2
  refine bodyPost_ret (resS (by kernel_rfl) rfl _ rfl (cs:=[.int .u64 a,.int .u64 b,.int .u64 c,.int .u64 d,.int .u64 e]) (g:=w.heap.size + 1) (Blk.newAt (by simp)) (by kernel_rfl)) rfl ?_
  exact ⟨rfl,by exact frP⟩
theorem headInC {w : World} {a b c d e : Nat} : Calls Tryz.prog 24 #[hdrA a b c d e] w fun r w'=>r = .returned (hdrA a b c d e) ∧ Fr [] w w':=by
  go_enter Tryz.func24,Tryz.ntmps24
  go_wp2
  refine bodyPost_ret (resS (by kernel_rfl) rfl _ rfl (cs:=[.int .u64 a,.int .u64 b,.int .u64 c,.int .u64 d,.int .u64 e]) (g:=w.heap.size + 1) (Blk.newAt (by simp)) (by kernel_rfl)) rfl ?_
  exact ⟨rfl,by exact frP⟩
theorem withData {w : World} {a b c d e p : Nat} (hp : p ≤ 255) (he : e < 1000000000) : Calls Tryz.prog 25 #[hdrA a b c d e,.int .u64 p] w fun r w'=>r = .returned (hdrA a b (51 + p) d (e + p)) ∧ Fr [] w w':=by
  have w1 : IntKind.u64.wrap ((51 : Int) + p) = (51 : Int) + p:=by rw [IntKind.wrap_u64];omega
  have w2 : IntKind.u64.wrap ((e : Int) + p) = (e : Int) + p:=by rw [IntKind.wrap_u64];omega
  go_enter Tryz.func25,Tryz.ntmps25
  go_wp2
  refine bodyPost_ret (resS (by kernel_rfl) rfl _ rfl (cs:=[.int .u64 a,.int .u64 b,.int .u64 ((51 : Int) + p),.int .u64 d,.int .u64 ((e : Int) + p)]) (g:=w.heap.size + 1) (Blk.newAt (by simp)) (by kernel_rfl)) rfl ?_
  exact ⟨by simp [hdrA],by exact frP⟩
theorem withIndex {w : World} {a b c d e p : Nat} (hp : p ≤ 255) (he : e < 1000000000) : Calls Tryz.prog 26 #[hdrA a b c d e,.int .u64 p] w fun r w'=>r = .returned (hdrA a b c d (e + p)) ∧ Fr [] w w':=by
  have w2 : IntKind.u64.wrap ((e : Int) + p) = (e : Int) + p:=by rw [IntKind.wrap_u64];omega
  go_enter Tryz.func26,Tryz.ntmps26
  go_wp2
  refine bodyPost_ret (resS (by kernel_rfl) rfl _ rfl (cs:=[.int .u64 a,.int .u64 b,.int .u64 c,.int .u64 d,.int .u64 ((e : Int) + p)]) (g:=w.heap.size + 1) (Blk.newAt (by simp)) (by kernel_rfl)) rfl ?_
  exact ⟨by simp [hdrA],by exact frP⟩
theorem c2New {w : World} {n : Nat} (hn : n ≤ 1700000) : Calls Tryz.prog 10 #[.int .u64 n] w fun r w'=>r = .returned (hdrA 0 0 51 n (51 + n)) ∧ Fr [] w w':=by
  have hnh:=fun w=>newHeader (n:=n) (by omega) w
  have hho:=fun w=>headOutC (w:=w) (a:=0) (b:=0) (c:=51) (d:=n) (e:=51 + n)
  go_enter Tryz.func10,Tryz.ntmps10
  go_wp2_with (first
    | go_at_call 27;refine (hnh _).mono ?_;rintro e w1 ⟨rfl,hF1⟩;have hZ1 : Blk w1 w.heap.size [.int .u64 0,.int .u64 0,.int .u64 0,.int .u64 0,.int .u64 0] 33 (0,0):=hF1.blk (Blk.newAt rfl) (by simp);have hF01 : Fr [] w w1:=Fr.trans (S:=[]) (by exact frP) hF1 (by simp)
    | go_at_call 23;refine (hho _).mono ?_;rintro e w2 ⟨rfl,hF2⟩;have hZ2:=hF2.blk hZ1 (by simp);have hF02:=hF01.trans hF2 (by simp)
    | (with_reducible refine list_store 33 (fun K hK=>?_);  refine storeRow _ _ _ rfl w.heap.size [.int .u64 0,.int .u64 0,.int .u64 (51 : Nat),.int .u64 n,.int .u64 (51 + n : Nat)] rfl rfl _ _ hZ2 (by kernel_rfl) rfl rfl (fun w3 hZ3 hF3=>?_)))
  refine bodyPost_ret (resS (by kernel_rfl) rfl _ rfl hZ3 (by kernel_rfl)) rfl ?_
  exact ⟨rfl,hF02.trans hF3 (by simp)⟩
theorem c2Pad {w : World} {n d i : Nat} (hn : n ≤ 1700000) (hd : d ≤ 255) (hi : i ≤ 255) : Calls Tryz.prog 9 #[hdrA 0 0 51 n (51 + n),.int .u64 d,.int .u64 i] w fun r w'=>r = .returned (hdrA 0 0 (51 + d) n (51 + n + (d + i))) ∧ Fr [] w w':=by
  have h1:=fun w=>headInC (w:=w) (a:=0) (b:=0) (c:=51) (d:=n) (e:=51 + n)
  have h2:=fun w=>withData (w:=w) (a:=0) (b:=0) (c:=51) (d:=n) (e:=51 + n) hd (by omega)
  have h3:=fun w=>withIndex (w:=w) (a:=0) (b:=0) (c:=51 + d) (d:=n) (e:=51 + n + d) hi (by omega)
  have h4:=fun w=>headOutC (w:=w) (a:=0) (b:=0) (c:=51 + d) (d:=n) (e:=51 + n + d + i)
  rw [← Nat.add_assoc]
  go_enter Tryz.func9,Tryz.ntmps9
  go_wp2_with (first
    | go_at_call 24;refine (h1 _).mono ?_;rintro e w1 ⟨rfl,hF1⟩;have hZ1 : Blk w1 (w.heap.size + 1) [.int .u64 0,.int .u64 0,.int .u64 0,.int .u64 0,.int .u64 0] 33 (0,0):=hF1.blk (Blk.newAt (by simp)) (by simp);have hF01 : Fr [] w w1:=Fr.trans (S:=[]) (by exact frP) hF1 (by simp);clear hF1 h1
    | go_at_call 25;(with_reducible refine (h2 _).mono ?_);rintro e w2 ⟨rfl,hF2⟩;have hZ2:=hF2.blk hZ1 (by simp);have hF02:=hF01.trans hF2 (by simp);clear hF2 hF01 hZ1 h2
    | go_at_call 26;(with_reducible refine (h3 _).mono ?_);rintro e w3 ⟨rfl,hF3⟩;have hZ3:=hF3.blk hZ2 (by simp);have hF03:=hF02.trans hF3 (by simp);clear hF3 hF02 hZ2 h3
    | go_at_call 23;(with_reducible refine (h4 _).mono ?_);rintro e w4 ⟨rfl,hF4⟩;have hZ4:=hF4.blk hZ3 (by simp);have hF04:=hF03.trans hF4 (by simp);clear hF4 hF03 hZ3 h4
    | (with_reducible refine list_store 33 (fun K hK=>?_);  refine storeRow _ _ _ rfl (w.heap.size + 1) [.int .u64 0,.int .u64 0,.int .u64 (51 + d : Nat),.int .u64 n,.int .u64 (51 + n + d + i : Nat)] rfl rfl _ _ hZ4 (by kernel_rfl) rfl rfl (fun w5 hZ5 hF5=>?_)))
  refine bodyPost_ret (resS (by kernel_rfl) rfl _ rfl hZ5 (by kernel_rfl)) rfl ?_
  exact ⟨rfl,hF04.trans hF5 (by simp)⟩
set_option maxRecDepth 1000000 in
set_option maxHeartbeats 12800000 in
theorem c2Bytes {w : World} {x y z : Nat} (hx : x < 1000000000) (hy : y < 1000000000) (hz : z < 1000000000) : Calls Tryz.prog 14 #[hdrA 0 0 x y z] w fun r w'=>r = .returned (.string ⟨(hdrB 0 0 x y z).toArray⟩) ∧ Fr [] w w':=by
  have h1:=fun w=>headInC (w:=w) (a:=0) (b:=0) (c:=x) (d:=y) (e:=z)
  obtain ⟨ys,hys⟩ : ∃ ys,Hid (ys = hdrB 0 0 x y z):=⟨_,rfl⟩
  have hwr:=fun (w1 : World) (p : Nat) (hP : Blk w1 p [.slice none 0 0,.int .i64 0,.int .i8 0] 83 (0,0))=>headerWriteS (bufSnk p (p + 1)) (v:=.slice none 0 0) (ys:=[]) ⟨⟨⟨0,hP⟩,⟨by simp [by8],.inl ⟨rfl,rfl⟩⟩,by omega,by simp⟩,fun _=>rfl⟩ hx hy hz (by simp) (by have:=hP.lt;omega)
  have e : ([] : List UInt8) ++ (traitsB ++ (Lib.leBytes 8 x ++ Lib.leBytes 8 y ++ Lib.leBytes 8 z)) = ys:=by rw [hys.out];simp [hdrB,traitsB]
  simp only [e] at hwr
  rw [← hys.out]
  clear e hx hy hz
  go_enter Tryz.func14,Tryz.ntmps14
  go_wp2_with (first
    | go_at_call 24;refine (h1 _).mono ?_;rintro e w1 ⟨rfl,hF1⟩
    | go_at_call 37;refine (hwr _ (w.heap.size + 1) (hF1.blk (Blk.newAt (by simp)) (by simp))).mono ?_;rintro e w2 ⟨rfl,v2,hW2⟩
    | go_at_call 38;refine (bufString (hW2.buf.1.fr (S:=[]) (by exact frP) (by simp) (by simp))).mono ?_;rintro e w6 ⟨rfl,hF6⟩)
  go_ret
  refine ⟨rfl,Fr.trans (S:=[]) (S':=[]) (Fr.trans (S:=[]) (S':=[w.heap.size + 1] ++ (Value.slice none 0 0).ownBlock.toList) (Fr.trans (S:=[]) (by exact frP) hF1 (by simp)) hW2.fr (by simp [Value.ownBlock])) hF6 (by simp)⟩
end Go.Proofs.Wx

namespace Go.Proofs.Wx
open Go Go.RowKit
/-- copy over the end of such a row. -/
theorem copyAt {op : Oper} {a : Act} {K : Act → World → Prop} {Q : Exit → Act → World → Prop} {w : World} (d s : Operand)
    (hop : op.op = .call { callee:=.builtin .copy,args:=#[d,s],argTypes:=#[76,76] })
    (base : Nat) {g zl cap o n c' : Nat} (zs xs : List UInt8) (hown : OwnF base w (.slice (some ⟨g,0,none⟩) zl cap) zs) (hd : a.eval d = .slice (some ⟨g,o,none⟩) n c') (b so m sc : Nat) (hss : a.eval s = .slice (some ⟨b,so,none⟩) m sc) (hx : Bs w b so xs) (hm : m = xs.length) (hl : o + n = zs.length) (hn : xs.length = n)
    (h : ∀ w',OwnF base w' (.slice (some ⟨g,0,none⟩) zl cap) (zs.take o ++ xs) → Fr [g] w w' → K (a.put op.dst (goInt m)) w') : op.wp Tryz.prog a w K Q:=by
  subst hm
  obtain ⟨i,hi,hz,hsz,hby⟩:=info_parts u8_info
  obtain ⟨g',cap',cur,fr,e0,hb,hg,hlc,hcm,hcs,ht,hfz⟩:=hown
  cases e0
  have hlo:=run_loadCells_list (P:=Tryz.prog) w ⟨b,so,none⟩ (by8 xs) (fun j u hu=>by
    have hj : j < xs.length:=by have:=(List.getElem?_eq_some_iff.1 hu).1;rwa [by8_length] at this
    rw [by8_at _ _ hj] at hu
    rw [← hu,Addr.add_lit];exact hx.cell j hj)
  have hst:=storeCells_fr (P:=Tryz.prog) g o 5 fr (by8 xs) 0 cur w hg (by rw [by8_length];omega) hfz (by8_one _)
  simp only [Nat.add_zero,by8_length] at hst
  rw [by8_length] at hlo
  have hr : (Builtin.copy_ #[76,76] op.type #[.slice (some ⟨g,o,none⟩) n c',.slice (some ⟨b,so,none⟩) xs.length sc]).run Tryz.prog w = .ok (goInt xs.length) (w.setRow g (cur.toList.take o ++ by8 xs ++ cur.toList.drop (o + xs.length)).toArray):=by
    have hm : Nat.min xs.length n = xs.length:=by rw [hn];exact Nat.min_self _
    simp [Builtin.copy_,run_underlying u8_slice,Builtin.lenOf,Builtin.firstCells,sizeOf,typeInfo,hi,hsz,hm,hlo,hst]
  unfold Oper.wp execOp
  simp only [hop,resolve,invoke,builtin,Sem.run_bind,Sem.run_pure,Result.andThen_ok,List.map_toArray,List.map_cons,List.map_nil,hd,hss,hr]
  have htk : (cur.toList.take o) = by8 (zs.take o):=by
    have : (cur.toList.take zs.length).take o = (by8 zs).take o:=by rw [ht]
    rw [List.take_take,Nat.min_eq_left (by omega)] at this
    rw [this];simp [by8,List.map_take]
  refine h _ ⟨g,cap,(cur.toList.take o ++ by8 xs ++ cur.toList.drop (o + xs.length)).toArray,fr,by simp;omega,hb,setRow_heap w g cur _ _ fr hg,by simp;omega,hcm,by simp [by8_length];omega,?_,fun k hk=>hfz k (by simp [by8_length] at hk;omega)⟩ (Fr.setRow (.inl (by simp)) Fr.refl)
  rw [htk,← by8_append,List.take_left' (by simp [by8_length])]
set_option maxRecDepth 1000000 in
set_option maxHeartbeats 12800000 in
theorem memWriteAtG {w : World} {p base b so sc n L o : Nat} {v : Value} {zs xs : List UInt8} {at_ : Value} (hP : Blk w p [v,at_] tMem (0,0)) (hO : OwnF base w v zs) (hL : zs.length = L) (hLo : L ≤ o) (ho : o ≤ 16777216) (hvp : v.ownBlock ≠ some p) (hbase : base ≤ w.heap.size) (hX : Bs w b so xs) (hn : xs.length = n) (hn5 : n ≤ 10000000) (h0 : 0 < n) (hbp : b ≠ p) (hbv : v.ownBlock ≠ some b) :
    Calls Tryz.prog 275 #[.pointer (some ⟨p,0,none⟩),.slice (some ⟨b,so,none⟩) n sc,.int .i64 o] w fun e w' =>
      e = .returned (.tuple #[.int .i64 n,.nilIface]) ∧ ∃ v',Blk w' p [v',at_] tMem (0,0) ∧ OwnF base w' v' (zs ++ List.replicate (o - L) 0 ++ xs) ∧ (v'.ownBlock = v.ownBlock ∨ ∃ k,v'.ownBlock = some k ∧ w.heap.size ≤ k) ∧ Fr (p :: v.ownBlock.toList) w w':=by
  have hpl:=hP.lt
  have hbl:=hX.lt
  have H:=Lib.hid (And.intro hX (And.intro hn (And.intro hbase hbv)))
  have hnz : (n : Int) ≤ 10000000:=by omega
  have hoz : (o : Int) ≤ 16777216:=by omega
  have HLo:=Lib.hid (And.intro hL hLo)
  clear hX hn hbase hbv
  go_enter Tryz.func275,Tryz.ntmps275
  go_wp2
  go_loopg [] (o + n - L) (fun k wr=>∃ (j : Nat) (v1 : Value),j + k = o + n - L ∧ Blk wr p [v1,at_] tMem (0,0) ∧ OwnF base wr v1 (zs ++ List.replicate j 0) ∧ (v1.ownBlock = v.ownBlock ∨ ∃ k,v1.ownBlock = some k ∧ w.heap.size ≤ k) ∧ Fr (p :: v.ownBlock.toList) w wr)
  case atStart=>exact ⟨0,v,by omega,hP,by simpa using hO,.inl rfl,Fr.refl⟩
  case round =>
    obtain ⟨j,v1,hjk,hP1,hO1,hv1,hF1⟩:=hrel
    obtain ⟨g1,c1,e1,hg1,hgl1,hc1⟩:=hO1.form
    rw [List.length_append,List.length_replicate,HLo.out.1] at e1 hc1
    have hv1' : ∀ k,v1.ownBlock = some k → k < w.heap.size → v.ownBlock = some k:=fun k hk hl=>by
      rcases hv1 with e|⟨k',e,h⟩
      · rw [← e];exact hk
      · rw [e] at hk;cases hk;omega
    have hs1:=hF1.size
    have hpc:=hP1.cells
    have hpf:=hP1.free
    have HV:=Lib.hid (And.intro hv1 hv1')
    clear hv1 hv1'
    subst e1
    have H1:=Lib.hid (And.intro hP1 (And.intro hO1 hF1))
    have hpg : p ≠ g1:=fun e=>by
      rcases HV.out.1 with h|⟨k,h,h2⟩
      · exact hvp (by rw [← h,e];rfl)
      · have h3 : g1 = k:=by simpa [Value.ownBlock] using h
        omega
    have hc1z : (L : Int) + (j : Int) ≤ (c1 : Int):=by omega
    by_cases hj : L + j < o + n
    · have hz : (L : Int) + (j : Int) < (o : Int) + (n : Int):=by omega
      have HJ:=Lib.hid (And.intro hj hjk)
      have hj5 : L + j < 27000000:=by omega
      clear hP1 hO1 hF1 hj hjk
      go_wp2_with (first
        | (with_reducible refine list_bi .append (fun K hK=>?_);  refine appF1o _ _ rfl base (.slice (some ⟨g1,0,none⟩) (L + j : Nat) c1) (zs ++ List.replicate j 0) 0 rfl (H1.out.2.1.fr (S:=[]) (Fr.alloc Fr.refl) (by simp)) wr.heap.size 1 rfl (World.cell?_alloc_new _ _ _ 0) (by have:=HLo.out.1;simp;omega) (by have:=H.out.2.2.1;simp;omega) (fun v6 w6 hO6 hF6 ho6=>?_);obtain ⟨g6,c6,e6,hg6,hgl6,hc6⟩:=hO6.form;have hP6:=hF6.blk (Blk.alloc H1.out.1) (by simp [Value.ownBlock];omega);have pc6:=hP6.cells;have pf6:=hP6.free;have H6:=Lib.hid (And.intro hP6 (And.intro hO6 (And.intro hF6 ho6)));clear hP6 hO6 hF6 ho6 hpc hpf;subst e6))
      go_roundg (o + n - L - (j + 1))
      case measure=>have:=HJ.out.1;have:=HJ.out.2;omega
      case rel =>
        obtain ⟨hP1,hO1,hF1⟩:=H1.out
        obtain ⟨hP6,hO6,hF6,ho6⟩:=H6.out
        have e7 : (zs ++ List.replicate j (0 : UInt8) ++ [0]).length = L + j + 1:=by have:=HLo.out.1;simp;omega
        rw [e7] at hO6 ho6
        obtain ⟨hv1,hv1'⟩:=HV.out
        have hFS : Fr [p] w6 (w6.setCell ⟨p,0,none⟩ (.slice (some ⟨g6,0,none⟩) (L + j + 1 : Nat) c6)):=Fr.setCell (by simp) Fr.refl
        refine ⟨j + 1,_,by have:=HJ.out.1;omega,Blk.conv hP6.set rfl,by rw [List.replicate_succ',← List.append_assoc];exact hO6.fr hFS (by
          simp
          refine .inr ?_
          simp only [Value.ownBlock]
          intro e;cases e
          rcases ho6 with h|⟨k,h,h2⟩
          · have h3 : p = g1:=by simpa [Value.ownBlock] using h
            exact hpg h3
          · have h3 : p = k:=by simpa [Value.ownBlock] using h
            simp at h2;omega),?_,?_⟩
        · rcases ho6 with e|⟨k,e,h⟩
          · rcases hv1 with e1|⟨k,e1,h1⟩
            · exact .inl (e.trans e1)
            · exact .inr ⟨k,e.trans e1,h1⟩
          · exact .inr ⟨k,e,by simp at h;omega⟩
        · refine ((hF1.trans (Fr.alloc Fr.refl : Fr [] _ _) (by simp)).trans hF6 (fun k hk hl=>?_)).trans hFS (by simp)
          have:=hv1' k (by simpa using hk) hl
          simp [this]
    · have hz : ¬ (L : Int) + (j : Int) < (o : Int) + (n : Int):=by omega
      have hjn : L + j = o + n:=by omega
      have hno : L + j - o = n:=by omega
      have hco : ¬ c1 = o:=by omega
      have HJ:=Lib.hid hjn
      clear hP1 hO1 hF1 hj hjk hjn
      go_wp2_with (first
        | (with_reducible refine list_bi .copy (fun K hK=>?_);  refine copyAt _ _ rfl base (g:=g1) (zl:=L + j) (cap:=c1) (o:=o) (n:=n) (zs ++ List.replicate j 0) xs H1.out.2.1 rfl b so n sc rfl (H.out.1.fr H1.out.2.2 (by simp;exact ⟨hbp,H.out.2.2.2⟩)) H.out.2.1.symm (by have:=HJ.out;have:=HLo.out.1;simp;omega) H.out.2.1 (fun w6 hO6 hF6=>?_);have H6:=Lib.hid (And.intro hO6 hF6);clear hO6 hF6))
      go_ret2
      obtain ⟨hP1,hO1,hF1⟩:=H1.out
      obtain ⟨hO6,hF6⟩:=H6.out
      obtain ⟨hv1,hv1'⟩:=HV.out
      have e8 : (zs ++ List.replicate j (0 : UInt8)).take o = zs ++ List.replicate (o - L) 0:=by
        have h1:=HJ.out
        have h2:=HLo.out
        rw [List.take_append,List.take_of_length_le (by omega),List.take_replicate,h2.1]
        congr 2;omega
      rw [e8] at hO6
      refine ⟨rfl,_,hF6.blk hP1 (by simp;omega),by simpa using hO6,hv1,hF1.trans hF6 (fun k hk hl=>?_)⟩
      have:=hv1' k (by simp at hk;subst hk;rfl) hl
      simp [this]
end Go.Proofs.Wx
