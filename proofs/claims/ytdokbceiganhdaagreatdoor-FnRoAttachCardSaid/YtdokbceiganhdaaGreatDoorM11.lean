import Derived.Test.YtdokbceiganhdaaGreatDoorM9
import Derived.Test.YtdokbceiganhdaaGreatDoorM10
set_option maxRecDepth 100000
set_option maxHeartbeats 1000000
set_option linter.unusedVariables false
set_option linter.unusedSimpArgs false
set_option linter.deprecated false
set_option linter.all false
set_option linter.unusedSectionVars false
namespace Go.Proofs.Wx
open Go Go.RowKit
abbrev oCfr00 : List (Nat × Cls):=[(0,.look),(1,.free),(2,.free),(3,.act),(4,.free)]
abbrev oCfr01 : List (Nat × Cls):=[(0,.free),(1,.free),(2,.free),(3,.look),(4,.free),(5,.look),(6,.free),(7,.free),(8,.free),(9,.free),(10,.act),(11,.free)]
abbrev oCfr02 : List (Nat × Cls):=[(0,.free),(1,.free),(2,.free),(3,.look),(4,.free),(5,.free),(6,.free),(7,.look),(8,.free),(9,.free),(10,.free),(11,.free),(12,.act),(13,.free)]
abbrev oCfr03 : List (Nat × Cls):=[(0,.free),(1,.free),(2,.free),(3,.look),(4,.free),(5,.free),(6,.read),(7,.free),(8,.free),(9,.act),(10,.free)]
abbrev oCfr04 : List (Nat × Cls):=[(0,.free),(1,.free),(2,.free),(3,.free),(4,.look),(5,.free),(6,.free),(7,.free),(8,.free),(9,.look),(10,.free),(11,.free),(12,.act),(13,.free),(14,.free),(15,.act)]
abbrev oCfr05 : List (Nat × Cls):=[(0,.free),(1,.free),(2,.free),(3,.look),(4,.free),(5,.free),(6,.free),(7,.free),(8,.act),(9,.free)]
abbrev oCfr06 : List (Nat × Cls):=[(0,.free),(1,.free),(2,.free),(3,.look),(4,.free),(5,.free),(6,.free),(7,.free),(8,.look),(9,.read),(10,.free),(11,.free),(12,.act),(13,.free)]
theorem cidFromReader0 {w : World} {r sb : Nat} {xs : List UInt8} {i : Nat} {c : CidM} {rest : List UInt8} (h : Rdr w r sb xs i) (hx : xs.drop i = c.bytes ++ rest) (h0 : c.v = 0) (hk : c.code = 18) (hl : c.dig.length = 32) :
    Calls Tryz.prog 90 #[.iface 74 (.pointer (some ⟨r,0,none⟩))] w fun e w'=>e = .returned (.tuple #[.int .i64 c.bytes.length,cidV c,.nilIface]) ∧ Rdr w' r sb xs (i + c.bytes.length) ∧ Fr [r] w w':=by
  have hlt:=h.lt
  go_enter Tryz.func90,Tryz.ntmps90
  go_wp2_with (first
    | (with_reducible refine list_makeSlice (fun K hK=>?_);  refine makeB _ _ rfl _ _ _ _ 0 64 rfl rfl rfl rfl (by omega) (by omega) ?_)
    | go_at_call 123;refine (toBufByteReader r _).mono ?_;rintro e w1 ⟨rfl,hQ1,hF1⟩
    | (refine wre 5 oCfr00 ?_)
    | (refine wre 6 oCfr01 ?_)
    | (refine wre 10 oCfr02 ?_)
    | (refine wre 14 oCfr01 ?_)
    | (refine wre 15 oCfr03 ?_)
    | (refine wre 20 oCfr01 ?_)
    | (refine wre 24 oCfr01 ?_)
    | (refine wre 27 oCfr01 ?_)
    | (refine wre 33 oCfr04 ?_)
    | (refine wre 37 oCfr05 ?_)
    | (refine wre 40 oCfr01 ?_)
    | (refine wre 41 oCfr06 ?_)
    | (with_reducible refine wEI ?_;(first|(refine wEN ?_;skip)|(refine wEF rfl (fun K hK=>?_);go_simp)|(refine wEL rfl rfl (fun K hK=>?_);go_simp)|(refine wER rfl (fun K hK=>?_);go_simp)|(refine wEM rfl (fun K hK=>?_);go_simp;try refine ⟨_,_,⟨rfl,rfl⟩,?_⟩)|(refine wEG rfl (fun K hK=>?_);go_simp)|(refine wpE_actp rfl rfl (fun K hK=>?_);simp only [List.getElem_toArray,List.getElem_cons_succ,List.getElem_cons_zero];(first|(with_reducible refine op_makeSlice ?_;  refine makeB _ _ rfl _ _ _ _ 0 64 rfl rfl rfl rfl (by omega) (by omega) ?_)))|(refine wEA rfl (fun K hK=>?_);go_simp))))
  have hb:=CidM.bytes0 h0 hk hl
  have hmh : c.bytes = mhB 18 c.dig:=by unfold CidM.bytes;rw [if_pos h0,hk]
  have hln : c.bytes.length = 34:=by rw [hb];simp [hl]
  have h18 : Lib.uvarint 18 = [18]:=Lib.uvarint_small (by decide)
  have hx1 : xs.drop i = Lib.uvarint 18 ++ (32 :: c.dig ++ rest):=by rw [hx,hb,h18];rfl
  have hx2 : (xs.drop (i + 1)).take 33 = 32 :: c.dig:=by rw [← List.drop_drop,hx1,h18];simp [List.take_append,hl]
  have hi1 : Bbr w1 (w.heap.size + 1 + 1) (w.heap.size + 1) r sb xs i i:=by
    have hD:=hF1.blk (Blk.new (cs:=List.replicate 64 (.int .u8 0))) (by simp)
    refine ⟨?_,?_,(h.fr (S:=[]) (Fr.trans (S:=[]) (by exact frP) hF1 (by simp)) (by simp) (by simp)),Nat.le_refl _,by omega,by omega,by omega,by omega,by omega⟩
    · simpa using hQ1
    · refine Blk.conv (by simpa using hD) ?_
      rw [List.drop_take];simp [buf64,by8]
  have hZ1:=hF1.blk (Blk.alloc (Blk.new (cs:=[_]))) (by simp)
  have hW1 : Fr [r] w w1:=Fr.trans (S:=[r]) (by exact frP) hF1 (by simp)
  have U1:=readUvarint (bbrSrc _ _ _ _ _ i) hi1 (n:=18) (by decide) (take_uv hx1 (by rw [h18];simp;omega))
  rw [h18] at U1
  have hxl : i + 34 ≤ xs.length:=by
    have h1:=congrArg List.length hx
    simp at h1;omega
  have hT : (xs.take (i + 1)).drop i = [18]:=by rw [List.drop_take,hx1,h18];simp
  have HT:=Lib.hid hT
  have Hx2:=Lib.hid hx2
  have Hmh:=Lib.hid hmh
  have Hb:=Lib.hid hb
  have HL:=Lib.hid hln
  clear hx hx1 hx2 hT hb hmh hln h18 hQ1 hF1 hi1 hk h0
  obtain ⟨q,hq⟩ : ∃ q,q = w.heap.size + 1 + 1:=⟨_,rfl⟩
  obtain ⟨d,hd⟩ : ∃ d,d = w.heap.size + 1:=⟨_,rfl⟩
  rw [← hq,← hd] at U1
  rw [← hq]
  have hqd : q ≠ d ∧ q ≠ r ∧ q ≠ sb ∧ d ≠ r ∧ d ≠ sb ∧ w.heap.size < d ∧ w.heap.size < q:=by omega
  have Hq:=Lib.hid hq
  have Hd:=Lib.hid hd
  clear hq hd
  have hqd1:=hqd.1
  have hqd2:=Ne.symm hqd1
  refine U1.mono ?_;rintro e w2 ⟨rfl,hi2,hF2⟩
  have hW2 : Fr [r] w w2:=hW1.trans hF2 (by simp;omega)
  have hZ2:=hF2.blk hZ1 (by simp;omega)
  have hq2:=hi2.hq.cells
  have hqf2:=hi2.hq.free
  simp only [List.length_singleton] at hi2 hq2 hqf2
  rw [show i + 1 - i = 1 by omega] at hq2
  have hD2:=hi2.hd
  rw [HT.out] at hD2
  clear hZ1
  go_wp2_with fail
  have hb7 : lay (buf64 [18]) 1 ((xs.drop (i + 1)).take 33) = buf64 c.bytes:=by
    have h1:=buf64_lay (ys:=[18]) (zs:=32 :: c.dig) (by simp;omega)
    rw [Hx2.out,Hb.out];exact h1
  refine (readFull hi2.hr d 1 33 63 _ _ hD2 (by rw [buf64_len (by simp)];omega) (by omega) hqd.2.2.2.1 hqd.2.2.2.2.1 (by omega)).mono ?_
  rintro e w3 ⟨rfl,hR3,hB3,hF3⟩
  rw [hb7] at hB3
  have hW3 : Fr [r] w w3:=hW2.trans hF3 (by simp;omega)
  have hQ3:=hF3.blk hi2.hq (by simp [hqd.2.1,hqd1])
  have hZ3:=hF3.blk hZ2 (by simp;omega)
  rw [show i + 1 - i = 1 by omega] at hQ3
  have hq3:=hQ3.cells
  have hqf3:=hQ3.free
  have hql3:=hQ3.lt
  have hB9:=buf64_bs hB3
  have hMh : ∀ w',Fr [q] w3 w' → Sl w' (.slice (some ⟨d,0,none⟩) 34 64) d (mhB 18 c.dig):=fun w' hf =>
    Sl.mk (by have:=hB9.fr hf (by simp [hqd2]);rw [Hmh.out] at this;exact this) (by rw [← Hmh.out,HL.out];omega) (by rw [← Hmh.out,HL.out];omega) (by rw [← Hmh.out,HL.out])
  clear hq2 hqf2 U1 hF2 hF3 hD2
  go_wp2_with fail
  have hZ4:=Blk.setNe (a:=⟨q,2,none⟩) (v:=.slice (some ⟨d,0,none⟩) 34 64) (Ne.symm (Nat.ne_of_lt hqd.2.2.2.2.2.2)) hZ3
  have hQ4:=Blk.set (o:=2) (v:=.slice (some ⟨d,0,none⟩) 34 64) hQ3
  refine (mhCast (hMh _ (Fr.setCell (by simp) Fr.refl)) (by omega) (by omega)).mono ?_;rintro e w4 ⟨rfl,hF4⟩
  have hQ5:=hF4.blk hQ4 (by simp)
  have hZ5:=hF4.blk hZ4 (by simp)
  have hq5:=hQ5.cells
  have hz5:=hZ5.cells
  have hzf5:=hZ5.free
  have hcv:=convBack (c:=64) 262 (.inr rfl) (((Bs.setNe (a:=⟨q,2,none⟩) (v:=.slice (some ⟨d,0,none⟩) 34 64) hqd1 hB9).fr hF4 (by simp)).drew) 34 HL.out
  have hF5 : Fr [r] w w4:=(Fr.setCell (.inr (Nat.le_of_lt hqd.2.2.2.2.2.2)) hW3).trans hF4 (by simp)
  have hR5:=(hR3.fr (S:=[q]) (Fr.setCell (a:=⟨q,2,none⟩) (v:=.slice (some ⟨d,0,none⟩) 34 64) (by simp) Fr.refl) (by simp [Ne.symm hqd.2.1]) (by simp [Ne.symm hqd.2.2.1])).fr hF4 (by simp) (by simp)
  clear hq3 hqf3
  go_wp2_with (first
    | (refine wre 5 oCfr00 ?_)
    | (refine wre 6 oCfr01 ?_)
    | (refine wre 10 oCfr02 ?_)
    | (refine wre 14 oCfr01 ?_)
    | (refine wre 15 oCfr03 ?_)
    | (refine wre 20 oCfr01 ?_)
    | (refine wre 24 oCfr01 ?_)
    | (refine wre 27 oCfr01 ?_)
    | (refine wre 33 oCfr04 ?_)
    | (refine wre 37 oCfr05 ?_)
    | (refine wre 40 oCfr01 ?_)
    | (refine wre 41 oCfr06 ?_)
    | (with_reducible refine wEI ?_;(first|(refine wEN ?_;skip)|(refine wEF rfl (fun K hK=>?_);go_simp)|(refine wEL rfl rfl (fun K hK=>?_);go_simp)|(refine wER rfl (fun K hK=>?_);go_simp)|(refine wEM rfl (fun K hK=>?_);go_simp;try refine ⟨_,_,⟨rfl,rfl⟩,?_⟩)|(refine wEG rfl (fun K hK=>?_);go_simp)|(refine wEA rfl (fun K hK=>?_);go_simp))))
  refine bodyPost_ret (v:=.tuple #[.int .i64 c.bytes.length,cidV c,.nilIface]) (by simp [results,Tryz.results90,go_sem,hz5,HL.out]) rfl ⟨rfl,?_,?_⟩
  · rw [show i + c.bytes.length = i + 1 + 33 by have:=HL.out;omega]
    exact hR5.fr (S:=[w.heap.size]) (by exact frP) (by simp;omega) (by simp;omega)
  · repeat (first|exact hF5|(with_reducible refine Fr.drew ?_)|(refine Fr.setCell (.inr (Nat.le_refl _)) ?_))
theorem cidFromReader {w : World} {r sb : Nat} {xs : List UInt8} {i : Nat} {c : CidM} {rest : List UInt8} (h : Rdr w r sb xs i) (hx : xs.drop i = c.bytes ++ rest) (hok : c.Ok) :
    Calls Tryz.prog 90 #[.iface 74 (.pointer (some ⟨r,0,none⟩))] w fun e w'=>e = .returned (.tuple #[.int .i64 c.bytes.length,cidV c,.nilIface]) ∧ Rdr w' r sb xs (i + c.bytes.length) ∧ Fr [r] w w':=by
  rcases hok.kind with ⟨h0,_,h1,h2⟩|⟨h0,_⟩
  · exact cidFromReader0 h hx h0 h1 h2
  · exact cidFromReader1 h hx h0 hok
end Go.Proofs.Wx

namespace Go.Proofs.Wx
open Go Go.RowKit
def recC (l : List (CidM × Nat)) : List Value:=l.flatMap fun x=>[.string ⟨x.1.bytes.toArray⟩,.int .u64 (x.2 : Nat)]
theorem recC_append (a b : List (CidM × Nat)) : recC (a ++ b) = recC a ++ recC b:=by simp [recC]
theorem entsAt_snoc : ∀ (p : Nat) (l : List BlkM) (b : BlkM),entsAt p (l ++ [b]) = entsAt p l ++ (if b.cid.code = 0 then [] else [(b.cid,p + (secsB l).length)])
  | p,[],b=>by simp [entsAt,secsB]
  | p,x :: l,b=>by
    rw [List.cons_append,entsAt,entsAt,entsAt_snoc,List.append_assoc]
    congr 2
    rw [show p + (secB x).length + (secsB l).length = p + (secsB (x :: l)).length by simp [secsB];omega]
theorem own_mono {base base' : Nat} {w : World} {T : TypeId} {size : Nat} {v : Value} {n : Nat} {xs : List Value} (h : w.ownsRow base T size v n xs) (hb : base' ≤ base) : w.ownsRow base' T size v n xs:=by
  refine ⟨h.1,?_⟩
  rcases h.2 with h2|⟨g,cap,cur,h1,h3,h4⟩
  · exact .inl h2
  · exact .inr ⟨g,cap,cur,h1,Nat.le_trans hb h3,h4⟩
theorem rec_slice : Tryz.prog.underlying 114 = some (.slice 120):=by kernel_rfl
theorem rec_info : (Tryz.prog.info? 120).map (fun i=>(i.zero,i.size,i.bytes)) = some (some (.agg #[.string ⟨#[]⟩,.int .u64 0]),2,24):=by kernel_rfl
theorem make_rec (w : World) : (Instr.makeSlice 114 (.int .i64 0) (.int .i64 0)).run Tryz.prog w = .ok (.slice (some ⟨w.heap.size,0,none⟩) 0 0) (w.alloc (.cells #[] 120 (0,0))):=by
  obtain ⟨i,hi,hz,hs,hby⟩:=info_parts rec_info
  have hr:=run_make (P:=Tryz.prog) w _ _ i (.agg #[.string ⟨#[]⟩,.int .u64 0]) rec_slice hi hz .i64 .i64 0 0 (by omega) (by omega) (by rw [hby];omega) (by omega)
  rw [hs] at hr
  have e : madeCells (Value.agg #[.string ⟨#[]⟩,.int .u64 0]).cells (0 * 2) = #[]:=by simp [madeCells]
  simp only [Int.toNat_zero,e] at hr
  simpa [e] using hr
@[go_sem] theorem field_code (a b c d : Value) (w : World) : (Instr.field 187 (.agg #[a,b,c,d]) 2).run Tryz.prog w = .ok c w:=by kernel_rfl
theorem newTwo {W : World} {n : Nat} {t : TypeId} {v u : Value} (e : n = W.heap.size) : ∀ j x,[v,u][j]? = some x → (W.alloc (.cells #[v,u] t)).cell? ((⟨n,0,none⟩ : Addr).add j) = some x:=by
  intro j x hx
  subst e
  match j,hx with
  | 0,hx=>simp at hx;subst hx;rw [Addr.add_lit];exact World.cell?_alloc_new _ _ _ 0
  | 1,hx=>simp at hx;subst hx;rw [Addr.add_lit];exact World.cell?_alloc_new _ _ _ 1
end Go.Proofs.Wx

namespace Go.Proofs.Wx
open Go Go.RowKit
/-- p is a bytes.Buffer that has only been written; v is its slice; its bytes are ys. -/
structure Buf (w : World) (p base : Nat) (v : Value) (ys : List UInt8) : Prop where
  hp : ∃ lr : Int,Blk w p [v,.int .i64 0,.int .i8 lr] 83 (0,0)
  own : w.ownsRow base 5 1 v ys.length (by8 ys)
  lt : p < base
  len : ys.length < 1000000000000
theorem Buf.fr {w w' : World} {p base : Nat} {v : Value} {ys : List UInt8} {S : List Nat} (h : Buf w p base v ys) (hf : Fr S w w') (h1 : p ∉ S) (h2 : ∀ k ∈ S,k < base ∨ v.ownBlock ≠ some k) : Buf w' p base v ys:=by
  obtain ⟨⟨lr,hB⟩,ho,h3,h4⟩:=h
  exact ⟨⟨lr,hf.blk hB h1⟩,own_fr ho hf h2,h3,h4⟩
theorem tryGrowNo {w : World} {p : Nat} {a : Option Addr} {l c n : Nat} {lr : Int} (hB : Blk w p [.slice a l c,.int .i64 0,.int .i8 lr] 83 (0,0)) (hl : l ≤ c) (hc : c ≤ 9223372036854775807) (hn : n < 1000000000000) (hno : c < l + n) :
    Calls Tryz.prog 265 #[.pointer (some ⟨p,0,none⟩),.int .i64 n] w fun e w'=>e = .returned (.tuple #[.int .i64 0,.bool false]) ∧ w = w':=by
  have hcc:=hB.cells
  have h1 : ¬ (n : Int) ≤ (c : Int) - l:=by omega
  have h2 : (l : Int) ≤ c:=by omega
  have h3 : (c : Int) ≤ 9223372036854775807:=by omega
  go_enter Tryz.func265,Tryz.ntmps265
  go_wp2
  go_ret2
  exact ⟨rfl,rfl⟩
theorem tryGrowYes {w : World} {p : Nat} {a : Addr} {l c n : Nat} {lr : Int} (hB : Blk w p [.slice (some a) l c,.int .i64 0,.int .i8 lr] 83 (0,0)) (hc : c ≤ 9223372036854775807) (hn : n < 1000000000000) (hyes : l + n ≤ c) :
    Calls Tryz.prog 265 #[.pointer (some ⟨p,0,none⟩),.int .i64 n] w fun e w'=>e = .returned (.tuple #[.int .i64 l,.bool true]) ∧ Blk w' p [.slice (some a) (l + n) c,.int .i64 0,.int .i8 lr] 83 (0,0) ∧ Fr [p] w w':=by
  have hcc:=hB.cells
  have hf:=hB.free
  have h1 : (n : Int) ≤ (c : Int) - l:=by omega
  have h2 : (l : Int) ≤ c:=by omega
  have h3 : (c : Int) ≤ 9223372036854775807:=by omega
  have h4 : (l : Int) + n ≤ c:=by omega
  go_enter Tryz.func265,Tryz.ntmps265
  go_wp2
  go_ret2
  refine ⟨rfl,?_,by exact frP⟩
  exact blkP
end Go.Proofs.Wx
