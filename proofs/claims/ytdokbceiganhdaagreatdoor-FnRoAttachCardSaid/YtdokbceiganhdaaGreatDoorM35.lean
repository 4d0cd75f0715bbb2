import Derived.Test.YtdokbceiganhdaaGreatDoorM13
import Derived.Test.YtdokbceiganhdaaGreatDoorM15
import Derived.Test.YtdokbceiganhdaaGreatDoorM30
import Derived.Test.YtdokbceiganhdaaGreatDoorM34
import Derived.Lib.Varint
set_option maxRecDepth 100000
set_option maxHeartbeats 1000000
set_option linter.unusedVariables false
set_option linter.unusedSimpArgs false
set_option linter.deprecated false
set_option linter.all false
set_option linter.unusedSectionVars false
namespace Go.Proofs.Wx
open Go Go.RowKit
abbrev oUnm20 : List (Nat × Cls):=[(0,.free),(1,.free),(2,.look),(3,.free),(4,.look),(5,.look),(6,.act)]
/-- What a source must know beside: where it stands. -/
structure Skr (T : TypeId) (ra : Addr) (S : List Nat) (xs : List UInt8) (I : World → Nat → Prop) (fk : Nat) : Prop where
  brs : ∀ w,Calls Tryz.prog 87 #[.iface T (.pointer (some ra))] w fun e w'=>e = .returned (.iface T (.pointer (some ra))) ∧ w = w'
  ahead : ∀ w, (nilAhead 615 T (.pointer (some ra)) "Seek").run Tryz.prog w = .ok (some false) w
  meth : ∀ w, (method 615 T (.pointer (some ra)) "Seek").run Tryz.prog w = .ok (fk, .pointer (some ra)) w
  enter : ∀ w a b,(callFunc fk #[.pointer (some ra),a,b]).run Tryz.prog w = .ok (.enter fk #[.pointer (some ra),a,b]) w
  call : ∀ w i,I w i → i ≤ xs.length → Calls Tryz.prog fk #[.pointer (some ra),.int .i64 0,.int .i64 1] w fun e w'=>e = .returned (.tuple #[.int .i64 i,.nilIface]) ∧ I w' i ∧ Fr S w w'
section
variable {T : TypeId} {ra : Addr} {S D : List Nat} {xs : List UInt8} {I : World → Nat → Prop} {f fk : Nat}
def muRel (w : World) (S : List Nat) (I : World → Nat → Prop) (bm i0 : Nat) (l : List Itm) (ws : List Nat) (k : Nat) (s11 s9 : Value) (wr : World) : Prop :=
  ∃ (j : Nat) (N : Nat) (ib : Nat → Nat),s11 = .int .i64 j ∧ s9 = .int .i64 N ∧ j + k = ws.length ∧ N ≤ (j + 1) * 100000000 ∧ I wr (i0 + ((ws.take j).flatMap (bucketB l)).length) ∧
    Mp wr bm .u32 ((ws.take j).map fun n=>(n + 8,swV n (ofW l n).length (ib n))) ∧ (∀ n ∈ ws.take j,Bs wr (ib n) 0 (rowsB (sortD (ofW l n))) ∧ w.heap.size ≤ ib n ∧ ib n < wr.heap.size) ∧ Fr (bm :: S) w wr
theorem widths_mem {l : List Itm} {n : Nat} (hd : ∀ e ∈ l,e.1.dig.length ≤ 200) (h : n ∈ widthsOf l) : n ≤ 200 ∧ 1 ≤ (ofW l n).length ∧ (ofW l n).length ≤ l.length:=by
  obtain ⟨e0,he0,hen⟩:=List.mem_map.1 ((mem_ascOf _ _).1 h)
  exact ⟨hen ▸ hd e0 he0,List.length_pos_of_mem (List.mem_filter.2 ⟨he0,by simpa using hen⟩),List.length_filter_le _ _⟩
set_option maxRecDepth 1000000 in
set_option maxHeartbeats 12800000 in
theorem mwUnmS (hs : Src T ra S D xs I f) (hk : Skr T ra S xs I fk) {w : World} {i mb bm : Nat} {l : List Itm} {rest : List UInt8} (h : I w i) (hx : xs.drop i = groupB l ++ rest) (hxl : xs.length ≤ 100000000) (hl : l.length ≤ 50) (hd : ∀ e ∈ l,e.1.dig.length ≤ 200)
    (hm : w.cell? ⟨mb,0,none⟩ = some (.map (some bm))) (hml : mb < w.heap.size) (hmb : mb ≠ bm) (hmD : mb ∉ D) (hbD : bm ∉ D) (hM : Mp w bm .u32 []) :
    Calls Tryz.prog 303 #[.pointer (some ⟨mb,0,none⟩),.iface T (.pointer (some ra))] w fun e w'=>e = .returned .nilIface ∧
      I w' (i + (groupB l).length) ∧ (∃ ks ib,Grp w' bm (Nw w w' [bm]) l ks ib) ∧ Fr (bm :: S) w w':=by
  have hlt:=hs.lt _ _ h
  have hS : ∀ k ∈ S,k < w.heap.size:=fun k hk=>hlt k (hs.sub k hk)
  have hmS : mb ∉ S:=fun hm=>hmD (hs.sub _ hm)
  have hbS : bm ∉ S:=fun hm=>hbD (hs.sub _ hm)
  have hbl0:=hM.lt
  obtain ⟨ws,hws⟩ : ∃ ws,Hid (ws = widthsOf l):=⟨_,rfl⟩
  have hwl : ws.length ≤ 50:=by
    rw [hws.out];have:=ascOf_length (l.map fun e=>e.1.dig.length);simp at this;unfold widthsOf;omega
  have hx4 : xs.drop i = Lib.leBytes 4 ws.length ++ (ws.flatMap (bucketB l) ++ rest):=by rw [hx,hws.out];simp [groupB]
  have hxb : xs.drop (i + 4) = ws.flatMap (bucketB l) ++ rest:=by rw [← List.drop_drop,hx4,List.drop_left' (Lib.leBytes_length _ _)]
  have hgl : i + 4 + (ws.flatMap (bucketB l)).length ≤ xs.length:=by have:=congrArg List.length hxb;have h4:=congrArg List.length hx4;simp only [List.length_drop,List.length_append,Lib.leBytes_length] at this h4;omega
  have h32:=fun (w1 : World) (q1 : Nat) (hR : I w1 i) (hB : Blk w1 q1 [.int .u32 0] 211 (0,0)) (hD : q1 ∉ D)=>read32S hs (oo:=0) hR hx4 (by omega) hB (by simp) hD
  have hgE : Hid ((groupB l).length = 4 + (ws.flatMap (bucketB l)).length):=by show _ = _;rw [hws.out];simp [groupB,Lib.leBytes_length]
  have wI : IntKind.i32.wrap (ws.length : Int) = (ws.length : Int):=by simp [IntKind.wrap,IntKind.bits,IntKind.signed];omega
  have hwz : (ws.length : Int) ≤ 50:=by omega
  obtain ⟨i4,hi4⟩ : ∃ i4,Hid (i4 = i + 4):=⟨_,rfl⟩
  have hi4z : (i4 : Int) ≤ 100000000:=by have:=hi4.out;omega
  have hkc:=fun (w1 : World) (hR : I w1 (i + 4))=>hk.call _ _ hR (by omega)
  simp only [← hi4.out] at hkc
  have hka:=hk.ahead
  have hkm:=hk.meth
  have hke:=hk.enter
  have HX:=Lib.hid (And.intro hxb (And.intro hgl (And.intro hxl h32)))
  have HQ:=Lib.hid (And.intro hm (And.intro h (And.intro hlt hM)))
  clear hx hx4 hxb hgl h32 hxl hm h hM hwl
  go_enter Tryz.func303,Tryz.ntmps303
  go_wp2_with (first
    | go_at_call 87;refine (hk.brs _).mono ?_;rintro e w0 ⟨rfl,rfl⟩
    | go_at_call 292;refine (HX.out.2.2.2 _ w.heap.size (hs.fr _ _ [] _ HQ.out.2.1 (by exact frP) (by simp)) (Blk.newAt rfl) (fun hm=>Nat.lt_irrefl _ (HQ.out.2.2.1 _ hm))).mono ?_;rintro e w1 ⟨rfl,hR1,hB1,hF1⟩;have hF01 : Fr S w w1:=Fr.trans (S:=S) (by exact frP) hF1 (fun k hk hl=>by rcases List.mem_cons.1 hk with rfl|hk;omega;exact hk);have hs1:=hF01.size;have bc1:=hB1.cells;have H1:=Lib.hid (And.intro hR1 (And.intro hB1 hF01));clear hR1 hB1 hF1 hF01
    | (with_reducible refine (hkc _ (by rw [hi4.out];exact H1.out.1)).mono ?_);rintro e w2 ⟨rfl,hR2,hF2⟩;have hF02 : Fr S w w2:=H1.out.2.2.trans hF2 (fun k hk _=>hk);have H2:=Lib.hid (And.intro hR2 hF02);clear hR2 hF2 hF02
    | (refine wre 28 oUnm20 ?_)
    | (with_reducible refine wEI ?_;(first|(refine wEN ?_;skip)|(refine wEF rfl (fun K hK=>?_);go_simp)|(refine wEL rfl rfl (fun K hK=>?_);go_simp)|(refine wER rfl (fun K hK=>?_);go_simp)|(refine wEM rfl (fun K hK=>?_);go_simp;try refine ⟨_,_,⟨rfl,rfl⟩,?_⟩)|(refine wEG rfl (fun K hK=>?_);go_simp)|(refine wEA rfl (fun K hK=>?_);go_simp))))
  obtain ⟨hR2,hF02⟩:=H2.out
  have hs2:=hF02.size
  go_loopg [11,9] ws.length (fun k s11 s9 wr=>muRel w S I bm i4 l ws k s11 s9 wr)
  case atStart=>exact ⟨0,i4,fun _=>0,rfl,rfl,by omega,by omega,by simpa using hR2,by simpa using HQ.out.2.2.2.fr hF02 hbS,by simp,hF02.mono (fun k hk=>List.mem_cons_of_mem _ hk)⟩
  case round =>
    obtain ⟨j,N,ib,rfl,rfl,hjk,hN,hRr,hMr,hrows,hFr⟩:=hrel
    have hmr : wr.cell? ⟨mb,0,none⟩ = some (.map (some bm)):=by rw [World.cell?_of_block (w:=w) (hFr.block mb hml (by simp;exact ⟨hmb,hmS⟩))];exact HQ.out.1
    have hszr:=hFr.size
    by_cases hj : j < ws.length
    · obtain ⟨n,hnE⟩ : ∃ n,n = ws[j]:=⟨_,rfl⟩
      have hnm : n ∈ widthsOf l:=by rw [← hws.out,hnE];exact List.getElem_mem hj
      obtain ⟨hn2,hc1,hcl⟩:=widths_mem hd hnm
      have htk : ws.take (j + 1) = ws.take j ++ [n]:=by rw [List.take_succ_eq_append_getElem hj,hnE]
      have hnt : n ∉ ws.take j:=by
        have hnd : ws.Nodup:=by rw [hws.out];exact asc_nodup (ascOf_asc _)
        have:=(List.nodup_append.1 (htk ▸ (hnd.sublist (List.take_sublist (j + 1) ws)))).2.2
        exact fun hm=>this n hm n (by simp) rfl
      obtain ⟨p,hp⟩ : ∃ p,p = i4 + ((ws.take j).flatMap (bucketB l)).length:=⟨_,rfl⟩
      obtain ⟨rows,hrE⟩ : ∃ rows,rows = rowsB (sortD (ofW l n)):=⟨_,rfl⟩
      obtain ⟨cnt,hcE⟩ : ∃ cnt,cnt = (ofW l n).length:=⟨_,rfl⟩
      obtain ⟨m8,hmE⟩ : ∃ m8,m8 = n + 8:=⟨_,rfl⟩
      obtain ⟨Lb,hLE⟩ : ∃ Lb,Lb = m8 * cnt:=⟨_,rfl⟩
      have hrl : rows.length = Lb:=by rw [hrE,hLE,hcE,hmE];exact rows_len
      have hbE : bucketB l n = Lib.leBytes 4 m8 ++ (Lib.leBytes 8 Lb ++ rows):=by rw [bucketB_eq,hrE,hLE,hcE,hmE]
      have hbl : (bucketB l n).length = 4 + 8 + Lb:=by rw [hbE];simp [Lib.leBytes_length,hrl];omega
      have hwsp : ws.flatMap (bucketB l) = (ws.take j).flatMap (bucketB l) ++ (bucketB l n ++ (ws.drop (j + 1)).flatMap (bucketB l)):=by
        conv=>lhs;rw [← List.take_append_drop (j + 1) ws,htk]
        simp
      have hxp : xs.drop p = Lib.leBytes 4 m8 ++ (Lib.leBytes 8 Lb ++ (rows ++ ((ws.drop (j + 1)).flatMap (bucketB l) ++ rest))):=by
        rw [hp,← List.drop_drop,hi4.out,HX.out.1,hwsp];simp [hbE]
      have hpl : p + 4 + 8 + Lb ≤ xs.length:=by
        have h1:=HX.out.2.1
        have h2:=congrArg List.length hwsp
        have h3:=hi4.out
        simp only [List.length_append] at h2
        omega
      have hL1 : Lb ≤ 208 * 50:=by rw [hLE];exact Nat.mul_le_mul (by omega) (by omega)
      have hL2 : 8 * 1 ≤ Lb:=by rw [hLE];exact Nat.mul_le_mul (by omega) (by omega)
      have hdiv : Lb / m8 = cnt:=by rw [hLE];exact Nat.mul_div_cancel_left _ (by omega)
      have hQD : wr.heap.size ∉ D:=fun hm=>by have:=HQ.out.2.2.1 _ hm;omega
      have hQS : wr.heap.size ∉ S:=fun hm=>by have:=hS _ hm;omega
      rw [← hp] at hRr
      have hsw:=fun (w1 : World) (hR : I w1 p) (hB : Blk w1 wr.heap.size [.int .u32 0,.int .u64 0,.slice none 0 0] tSW (0,0))=>swUnmS hs hR hxp hrl (by omega) (by omega) (by omega) (by omega) hB hQD
      obtain ⟨q,hq⟩ : ∃ q,q = p + 4 + 8 + Lb:=⟨_,rfl⟩
      have hkq:=fun (w1 : World) (hR : I w1 (p + 4 + 8 + Lb))=>hk.call _ _ hR hpl
      simp only [hdiv,← hq] at hsw hkq
      have hqz : (q : Int) ≤ 100000000:=by have:=HX.out.2.2.1;omega
      have hjz : (j : Int) < (ws.length : Int):=by omega
      have hNz : (N : Int) ≤ 6000000000:=by omega
      have wS : IntKind.i64.wrap ((N : Int) + (q : Int)) = (N : Int) + (q : Int):=by simp [IntKind.wrap,IntKind.bits,IntKind.signed];omega
      have hnlt : ¬ (N : Int) + (q : Int) < (N : Int):=by omega
      have hswV : swV n cnt = fun g=>.agg #[.int .u32 m8,.int .u64 cnt,.slice (some ⟨g,0,none⟩) Lb Lb]:=by funext g;unfold swV;rw [hLE,hmE]
      have HJ:=Lib.hid (And.intro hjk (And.intro hN (And.intro hrows (And.intro htk (And.intro hnt (And.intro hbl (And.intro hp (And.intro hq (And.intro hFr (And.intro hMr (And.intro hRr (And.intro hswV (And.intro hcE (And.intro hmE hrE))))))))))))))
      have hbr:=hMr.lt
      clear hjk hN hrows htk hnt hbl hp hpl hxp hbE hwsp hnE hFr hMr hRr hswV hcE hmE hrE hLE hq hnm hrl hdiv hL1 hL2
      go_wp2_with (first
        | go_at_call 309;refine (hsw _ (hs.fr _ _ [] _ HJ.out.2.2.2.2.2.2.2.2.2.2.1 (by exact frP) (by simp)) (Blk.newAt rfl)).mono ?_;rintro e w5 ⟨rfl,g,hg1,hg2,hR5,hQ5,hB5,hF5⟩;have hF5' : Fr S wr w5:=Fr.trans (S:=S) (by exact frP) hF5 (fun k hk hl=>by rcases List.mem_cons.1 hk with rfl|hk;omega;exact hk);have hs5:=hF5'.size;have hg5 : wr.heap.size < g:=(by simp at hg1;omega);have H5:=Lib.hid (And.intro hR5 (And.intro hQ5 (And.intro hB5 hF5')));clear hR5 hQ5 hB5 hF5 hF5' hg1 hsw
        | (with_reducible refine (hkq _ H5.out.1).mono ?_);rintro e w6 ⟨rfl,hR6,hF6⟩;have hQ6:=hF6.blk H5.out.2.1 hQS;have qc6:=hQ6.cells;have hF06 : Fr S wr w6:=H5.out.2.2.2.trans hF6 (fun k hk _=>hk);have hm6 : w6.cell? ⟨mb,0,none⟩ = some (.map (some bm)):=(by rw [World.cell?_of_block (w:=wr) (hF06.block mb (by omega) hmS)];exact hmr);have hM6:=HJ.out.2.2.2.2.2.2.2.2.2.1.fr hF06 hbS;have hB6:=H5.out.2.2.1.fr hF6 (fun hm=>by have:=hS _ hm;omega);have H6:=Lib.hid (And.intro hR6 (And.intro hF06 (And.intro hM6 hB6)));clear hR6 hF6 hF06 hM6 hB6 hQ6
        | ((with_reducible refine list_mapUpdate (fun K hK=>?_));  refine putStep _ _ _ 237 rfl (b:=bm) (n:=m8) (q:=.u32) (x:=.agg #[.int .u32 m8,.int .u64 cnt,.slice (some ⟨g,0,none⟩) Lb Lb]) rfl rfl rfl (H6.out.2.2.1.fr (S:=[]) (by exact frP) (by simp)) (Kt:=211) (E:=457) (by kernel_rfl) (by kernel_rfl) (fun w8 hF8 hP8=>?_);have hF68 : Fr [bm] w6 w8:=Fr.trans (S:=[bm]) (by exact frP) hF8 (fun k hk _=>hk);have H8:=Lib.hid (And.intro hF68 hP8);clear hF8 hF68 hP8)
        | (refine wre 28 oUnm20 ?_)
        | (with_reducible refine wEI ?_;(first|(refine wEN ?_;skip)|(refine wEF rfl (fun K hK=>?_);go_simp)|(refine wEL rfl rfl (fun K hK=>?_);go_simp)|(refine wER rfl (fun K hK=>?_);go_simp)|(refine wEM rfl (fun K hK=>?_);go_simp;try refine ⟨_,_,⟨rfl,rfl⟩,?_⟩)|(refine wpE_growp rfl rfl (fun K hK=>?_);simp only [List.getElem_toArray,List.getElem_cons_succ,List.getElem_cons_zero];(first|((with_reducible refine op_mapUpdate ?_);  refine putStep _ _ _ 237 rfl (b:=bm) (n:=m8) (q:=.u32) (x:=.agg #[.int .u32 m8,.int .u64 cnt,.slice (some ⟨g,0,none⟩) Lb Lb]) rfl rfl rfl (H6.out.2.2.1.fr (S:=[]) (by exact frP) (by simp)) (Kt:=211) (E:=457) (by kernel_rfl) (by kernel_rfl) (fun w8 hF8 hP8=>?_);have hF68 : Fr [bm] w6 w8:=Fr.trans (S:=[bm]) (by exact frP) hF8 (fun k hk _=>hk);have H8:=Lib.hid (And.intro hF68 hP8);clear hF8 hF68 hP8)))|(refine wEG rfl (fun K hK=>?_);go_simp)|(refine wpE_actp rfl rfl (fun K hK=>?_);simp only [List.getElem_toArray,List.getElem_cons_succ,List.getElem_cons_zero];(first|((with_reducible refine op_mapUpdate ?_);  refine putStep _ _ _ 237 rfl (b:=bm) (n:=m8) (q:=.u32) (x:=.agg #[.int .u32 m8,.int .u64 cnt,.slice (some ⟨g,0,none⟩) Lb Lb]) rfl rfl rfl (H6.out.2.2.1.fr (S:=[]) (by exact frP) (by simp)) (Kt:=211) (E:=457) (by kernel_rfl) (by kernel_rfl) (fun w8 hF8 hP8=>?_);have hF68 : Fr [bm] w6 w8:=Fr.trans (S:=[bm]) (by exact frP) hF8 (fun k hk _=>hk);have H8:=Lib.hid (And.intro hF68 hP8);clear hF8 hF68 hP8)))|(refine wEA rfl (fun K hK=>?_);go_simp))))
      go_roundg (ws.length - (j + 1))
      case measure=>have:=HJ.out.1;omega
      case rel =>
        obtain ⟨hjk,hN,hrows,htk,hnt,hbl,hp,hq,hFr,hMr,hRr,hswV,hcE,hmE,hrE⟩:=HJ.out
        obtain ⟨hR6,hF06,hM6,hB6⟩:=H6.out
        obtain ⟨hF68,hP8⟩:=H8.out
        have hmap : (ws.take (j + 1)).map (fun m=>(m + 8,swV m (ofW l m).length (upd ib n g m))) = ((ws.take j).map fun m=>(m + 8,swV m (ofW l m).length (ib m))) ++ [(m8,.agg #[.int .u32 m8,.int .u64 cnt,.slice (some ⟨g,0,none⟩) Lb Lb])]:=by
          rw [htk,List.map_append,List.map_singleton,upd_same,← hcE,hswV,hmE]
          congr 1
          exact List.map_congr_left fun m hm=>by rw [upd_ne (fun e=>hnt (by rw [← e];exact hm))]
        refine ⟨j + 1,N + q,upd ib n g,by first|(push_cast;rfl)|(rw [wrap64_in (by omega) (by omega)];push_cast;rfl),by first|(push_cast;rfl)|(rw [wrap64_in (by omega) (by omega)];push_cast;rfl),by omega,by omega,?_,?_,?_,?_⟩
        · have e : i4 + ((ws.take (j + 1)).flatMap (bucketB l)).length = q:=by rw [htk,List.flatMap_append,List.length_append,List.flatMap_singleton,hbl];omega
          rw [e];exact hs.fr _ _ _ _ hR6 hF68 (by simp;exact hbD)
        · rw [hmap]
          rcases hP8 with h|⟨j,v0,_,h,_⟩
          · exact h.2
          · rw [hmE,look_none hnt] at h;cases h
        · intro m hm
          rw [htk] at hm
          have h68s:=hF68.size
          rcases List.mem_append.1 hm with hm|hm
          · rw [upd_ne (fun e=>hnt (by rw [← e];exact hm))]
            obtain ⟨e1,e2,e3⟩:=hrows m hm
            have hnb : ib m ≠ bm:=by omega
            exact ⟨(e1.fr hF06 (fun hm=>by have:=hS _ hm;omega)).fr hF68 (by simp;exact hnb),e2,Nat.lt_of_lt_of_le e3 (Nat.le_trans hF06.size h68s)⟩
          · simp at hm;subst hm
            rw [upd_same,← hrE]
            have hgl:=hB6.lt
            exact ⟨hB6.fr hF68 (by simp;omega),by omega,by omega⟩
        · exact (hFr.trans hF06 (fun k hk _=>List.mem_cons_of_mem _ hk)).trans hF68 (by simp)
    · have hjE : j = ws.length:=by omega
      have hjz : ¬ (j : Int) < (ws.length : Int):=by omega
      go_wp2
      go_ret
      rw [hjE,List.take_length] at hRr hMr hrows
      refine ⟨rfl,by rw [hgE.out,← Nat.add_assoc,← hi4.out];exact hRr,⟨ws,ib,hMr,.inl (by simp),by rw [hws.out];exact asc_nodup (ascOf_asc _),fun n=>by rw [hws.out];exact mem_ascOf _ _,fun n hn=>?_⟩,hFr⟩
      obtain ⟨h1,h2,h3⟩:=hrows n hn
      exact ⟨h1,.inr ⟨h2,h3⟩⟩
end
end Go.Proofs.Wx

namespace Go.Proofs.Wx
open Go Go.RowKit
section
variable {T : TypeId} {ra : Addr} {S D : List Nat} {xs : List UInt8} {I : World → Nat → Prop} {f fk : Nat}
set_option maxRecDepth 1000000 in
set_option maxHeartbeats 12800000 in
theorem mwcUnmS (hs : Src T ra S D xs I f) (hk : Skr T ra S xs I fk) {w : World} {i cb bm c : Nat} {l : List Itm} {rest : List UInt8} (h : I w i) (hx : xs.drop i = Lib.leBytes 8 c ++ (groupB l ++ rest)) (hc : c < 9223372036854775808) (hxl : xs.length ≤ 100000000) (hl : l.length ≤ 50) (hd : ∀ e ∈ l,e.1.dig.length ≤ 200)
    (hC : Blk w cb [.map (some bm),.int .u64 0] 441 (0,0)) (hcb : cb ≠ bm) (hcD : cb ∉ D) (hbD : bm ∉ D) (hM : Mp w bm .u32 []) :
    Calls Tryz.prog 293 #[.pointer (some ⟨cb,0,none⟩),.iface T (.pointer (some ra))] w fun e w'=>e = .returned .nilIface ∧
      I w' (i + (8 + (groupB l).length)) ∧ Blk w' cb [.map (some bm),.int .u64 c] 441 (0,0) ∧ (∃ ks ib,Grp w' bm (Nw w w' [bm]) l ks ib) ∧ Fr (cb :: bm :: S) w w':=by
  have hlt:=hs.lt _ _ h
  have hcS : cb ∉ S:=fun hm=>hcD (hs.sub _ hm)
  have hbS : bm ∉ S:=fun hm=>hbD (hs.sub _ hm)
  have hx8 : xs.drop (i + 8) = groupB l ++ rest:=by rw [← List.drop_drop,hx,List.drop_left' (Lib.leBytes_length _ _)]
  have h64:=read64S hs (oo:=1) h hx (by omega) hC (by simp) hcD
  have hmw:=fun (w1 : World) (hR : I w1 (i + 8)) (hC1 : Blk w1 cb [.map (some bm),.int .u64 c] 441 (0,0)) (hM1 : Mp w1 bm .u32 [])=>mwUnmS hs hk (mb:=cb) hR hx8 hxl hl hd (Blk.cell0 hC1) (Blk.lt hC1) hcb hcD hbD hM1
  clear hx hx8
  go_enter Tryz.func293,Tryz.ntmps293
  go_wp2_with (first
    | go_at_call 302;refine h64.mono ?_;rintro e w1 ⟨rfl,hR1,hC1',hF1⟩;have hC1 : Blk w1 cb [.map (some bm),.int .u64 c] 441 (0,0):=hC1'.conv rfl;have hM1:=hM.fr hF1 (by simp;exact ⟨Ne.symm hcb,hbS⟩);clear hC1'
    | go_at_call 303;refine (hmw _ hR1 hC1 hM1).mono ?_;rintro e w2 ⟨rfl,hR2,⟨ks,ib,hG2⟩,hF2⟩)
  go_ret
  exact ⟨rfl,by rw [← Nat.add_assoc];exact hR2,hF2.blk hC1 (by simp;exact ⟨hcb,hcS⟩),⟨ks,ib,hG2.mono fun b _ h=>h.imp id fun h=>⟨Nat.le_trans hF1.size h.1,h.2⟩⟩,Fr.trans (S:=cb :: bm :: S) (S':=bm :: S) (hF1.mono (by simp;exact fun k hk=>.inr (.inr hk))) hF2 (fun k hk _=>List.mem_cons_of_mem _ hk)⟩
end
end Go.Proofs.Wx

namespace Go.Proofs.Wx
open Go Go.RowKit
section
variable {T : TypeId} {ra : Addr} {S D : List Nat} {xs : List UInt8} {I : World → Nat → Prop} {f fk : Nat}
def mhuRel (w : World) (S : List Nat) (I : World → Nat → Prop) (bm i0 : Nat) (l : List Itm) (cs : List Nat) (k : Nat) (s11 s9 : Value) (wr : World) : Prop :=
  ∃ (j : Nat) (N : Nat) (cb bc : Nat → Nat) (ks : Nat → List Nat) (ib : Nat → Nat → Nat),s11 = .int .i64 j ∧ s9 = .int .i64 N ∧ j + k = cs.length ∧ N ≤ (j + 1) * 100000000 ∧ I wr (i0 + ((cs.take j).flatMap (codeB l)).length) ∧
    Mp wr bm .u64 ((cs.take j).map fun c=>(c,.pointer (some ⟨cb c,0,none⟩))) ∧
    (∀ c ∈ cs.take j,Blk wr (cb c) [.map (some (bc c)),.int .u64 c] 441 (0,0) ∧ w.heap.size ≤ cb c ∧ Grp wr (bc c) (Rg w.heap.size wr.heap.size) (ofC l c) (ks c) (ib c)) ∧ Fr (bm :: S) w wr
theorem codeB_len (l : List Itm) (c : Nat) : (codeB l c).length = 8 + (groupB (ofC l c)).length:=by simp [codeB,Lib.leBytes_length]
set_option maxRecDepth 1000000 in
set_option maxHeartbeats 12800000 in
theorem mhUnmS (hs : Src T ra S D xs I f) (hk : Skr T ra S xs I fk) {w : World} {i ix bm : Nat} {Tx : TypeId} {l : List Itm} {rest : List UInt8} (h : I w i) (hx : xs.drop i = idxB l ++ rest) (hxl : xs.length ≤ 100000000) (hl : l.length ≤ 50) (hd : ∀ e ∈ l,e.1.dig.length ≤ 200) (hc : ∀ e ∈ l,e.1.code < 9223372036854775808)
    (hT : Blk w ix [.map (some bm)] Tx (0,0)) (hmb : ix ≠ bm) (hmD : ix ∉ D) (hbD : bm ∉ D) (hM : Mp w bm .u64 []) :
    Calls Tryz.prog 284 #[.pointer (some ⟨ix,0,none⟩),.iface T (.pointer (some ra))] w fun e w'=>e = .returned .nilIface ∧
      I w' (i + (idxB l).length) ∧ (∃ cs cb bc ks ib,Ixs w' ix bm (Nw w w' [ix,bm]) l cs cb bc ks ib) ∧ Fr (bm :: S) w w':=by
  have hlt:=hs.lt _ _ h
  have hS : ∀ k ∈ S,k < w.heap.size:=fun k hk=>hlt k (hs.sub k hk)
  have hDl : ∀ k ∈ D,k < w.heap.size:=hlt
  have hmS : ix ∉ S:=fun hm=>hmD (hs.sub _ hm)
  have hbS : bm ∉ S:=fun hm=>hbD (hs.sub _ hm)
  have hbl0:=hM.lt
  have hTl:=hT.lt
  obtain ⟨cs,hcs⟩ : ∃ cs,Hid (cs = codesOf l):=⟨_,rfl⟩
  have hwl : cs.length ≤ 50:=by
    rw [hcs.out];have:=ascOf_length (l.map fun e=>e.1.code);simp at this;unfold codesOf;omega
  have hx4 : xs.drop i = Lib.leBytes 4 cs.length ++ (cs.flatMap (codeB l) ++ rest):=by rw [hx,hcs.out];simp [idxB]
  have hxb : xs.drop (i + 4) = cs.flatMap (codeB l) ++ rest:=by rw [← List.drop_drop,hx4,List.drop_left' (Lib.leBytes_length _ _)]
  have hgl : i + 4 + (cs.flatMap (codeB l)).length ≤ xs.length:=by have:=congrArg List.length hxb;have h4:=congrArg List.length hx4;simp only [List.length_drop,List.length_append,Lib.leBytes_length] at this h4;omega
  have h32:=fun (w1 : World) (q1 : Nat) (hR : I w1 i) (hB : Blk w1 q1 [.int .u32 0] 211 (0,0)) (hD : q1 ∉ D)=>read32S hs (oo:=0) hR hx4 (by omega) hB (by simp) hD
  have hgE : Hid ((idxB l).length = 4 + (cs.flatMap (codeB l)).length):=by show _ = _;rw [hcs.out];simp [idxB,Lib.leBytes_length]
  have wI : IntKind.i32.wrap (cs.length : Int) = (cs.length : Int):=by simp [IntKind.wrap,IntKind.bits,IntKind.signed];omega
  have hwz : (cs.length : Int) ≤ 50:=by omega
  obtain ⟨i4,hi4⟩ : ∃ i4,Hid (i4 = i + 4):=⟨_,rfl⟩
  have hi4z : (i4 : Int) ≤ 100000000:=by have:=hi4.out;omega
  have hkc:=fun (w1 : World) (hR : I w1 (i + 4))=>hk.call _ _ hR (by omega)
  simp only [← hi4.out] at hkc
  have hka:=hk.ahead
  have hkm:=hk.meth
  have hke:=hk.enter
  have HX:=Lib.hid (And.intro hxb (And.intro hgl (And.intro hxl h32)))
  have HQ:=Lib.hid (And.intro hT (And.intro h (And.intro hlt hM)))
  clear hx hx4 hxb hgl h32 hxl hT h hM hwl hlt
  go_enter Tryz.func284,Tryz.ntmps284
  go_wp2_with (first
    | go_at_call 87;refine (hk.brs _).mono ?_;rintro e w0 ⟨rfl,rfl⟩
    | go_at_call 292;refine (HX.out.2.2.2 _ w.heap.size (hs.fr _ _ [] _ HQ.out.2.1 (by exact frP) (by simp)) (Blk.newAt rfl) (fun hm=>Nat.lt_irrefl _ (HQ.out.2.2.1 _ hm))).mono ?_;rintro e w1 ⟨rfl,hR1,hB1,hF1⟩;have hF01 : Fr S w w1:=Fr.trans (S:=S) (by exact frP) hF1 (fun k hk hl=>by rcases List.mem_cons.1 hk with rfl|hk;omega;exact hk);have hs1:=hF01.size;have bc1:=hB1.cells;have H1:=Lib.hid (And.intro hR1 (And.intro hB1 hF01));clear hR1 hB1 hF1 hF01
    | (with_reducible refine (hkc _ (by rw [hi4.out];exact H1.out.1)).mono ?_);rintro e w2 ⟨rfl,hR2,hF2⟩;have hF02 : Fr S w w2:=H1.out.2.2.trans hF2 (fun k hk _=>hk);have H2:=Lib.hid (And.intro hR2 hF02);clear hR2 hF2 hF02)
  obtain ⟨hR2,hF02⟩:=H2.out
  have hs2:=hF02.size
  go_loopg [11,9] cs.length (fun k s11 s9 wr=>mhuRel w S I bm i4 l cs k s11 s9 wr)
  case atStart=>exact ⟨0,i4,fun _=>0,fun _=>0,fun _=>[],fun _ _=>0,rfl,rfl,by omega,by omega,by simpa using hR2,by simpa using HQ.out.2.2.2.fr hF02 hbS,by simp,hF02.mono (fun k hk=>List.mem_cons_of_mem _ hk)⟩
  case round =>
    obtain ⟨j,N,cb,bc,ks,ib,rfl,rfl,hjk,hN,hRr,hMr,hrows,hFr⟩:=hrel
    have hszr:=hFr.size
    by_cases hj : j < cs.length
    · obtain ⟨n,hnE⟩ : ∃ n,n = cs[j]:=⟨_,rfl⟩
      have hnm : n ∈ codesOf l:=by rw [← hcs.out,hnE];exact List.getElem_mem hj
      have hn63 : n < 9223372036854775808:=by
        obtain ⟨e0,he0,hen⟩:=List.mem_map.1 ((mem_ascOf _ _).1 hnm)
        exact hen ▸ hc e0 he0
      have htk : cs.take (j + 1) = cs.take j ++ [n]:=by rw [List.take_succ_eq_append_getElem hj,hnE]
      have hnt : n ∉ cs.take j:=by
        have hnd : cs.Nodup:=by rw [hcs.out];exact asc_nodup (ascOf_asc _)
        have:=(List.nodup_append.1 (htk ▸ (hnd.sublist (List.take_sublist (j + 1) cs)))).2.2
        exact fun hm=>this n hm n (by simp) rfl
      obtain ⟨p,hp⟩ : ∃ p,p = i4 + ((cs.take j).flatMap (codeB l)).length:=⟨_,rfl⟩
      have hbE : codeB l n = Lib.leBytes 8 n ++ groupB (ofC l n):=rfl
      have hwsp : cs.flatMap (codeB l) = (cs.take j).flatMap (codeB l) ++ (codeB l n ++ (cs.drop (j + 1)).flatMap (codeB l)):=by
        conv=>lhs;rw [← List.take_append_drop (j + 1) cs,htk]
        simp
      have hxp : xs.drop p = Lib.leBytes 8 n ++ (groupB (ofC l n) ++ ((cs.drop (j + 1)).flatMap (codeB l) ++ rest)):=by
        rw [hp,← List.drop_drop,hi4.out,HX.out.1,hwsp];simp [hbE]
      have hpl : p + (8 + (groupB (ofC l n)).length) ≤ xs.length:=by
        have h1:=HX.out.2.1
        have h2:=congrArg List.length hwsp
        have h3:=hi4.out
        have h4:=codeB_len l n
        simp only [List.length_append] at h2
        omega
      rw [← hp] at hRr
      have hsw:=fun (w1 : World) (b m : Nat) (hR : I w1 p) (h1 : Blk w1 b [.map (some m),.int .u64 0] 441 (0,0)) (h2 : b ≠ m) (h3 : b ∉ D) (h4 : m ∉ D) (h5 : Mp w1 m .u32 []) =>
        mwcUnmS hs hk hR hxp hn63 HX.out.2.2.1 (Nat.le_trans (ofC_length l n) hl) (fun e he=>hd e (List.mem_filter.1 he).1) h1 h2 h3 h4 h5
      obtain ⟨q,hq⟩ : ∃ q,q = p + (8 + (groupB (ofC l n)).length):=⟨_,rfl⟩
      have hkq:=fun (w1 : World) (hR : I w1 (p + (8 + (groupB (ofC l n)).length)))=>hk.call _ _ hR hpl
      simp only [← hq] at hsw hkq
      have hqz : (q : Int) ≤ 100000000:=by have:=HX.out.2.2.1;omega
      have hjz : (j : Int) < (cs.length : Int):=by omega
      have hNz : (N : Int) ≤ 6000000000:=by omega
      have wS : IntKind.i64.wrap ((N : Int) + (q : Int)) = (N : Int) + (q : Int):=by simp [IntKind.wrap,IntKind.bits,IntKind.signed];omega
      have hnlt : ¬ (N : Int) + (q : Int) < (N : Int):=by omega
      have hln : ((cs.take j).map fun c=>(c,Value.pointer (some ⟨cb c,0,none⟩))).lookup n = none:=look_none2 hnt
      have HJ:=Lib.hid (And.intro hjk (And.intro hN (And.intro hrows (And.intro htk (And.intro hnt (And.intro hp (And.intro hq (And.intro hFr (And.intro hMr hRr)))))))))
      have hbr:=hMr.lt
      clear hjk hN hrows htk hnt hp hpl hxp hbE hwsp hnE hFr hMr hRr hq hnm
      go_wp2_with (first
        | go_at_call 286;refine (newMwc _).mono ?_;rintro e w4 ⟨b0,m0,rfl,hb0,hm0,hbm,hC4,hM4,hF4⟩;have h4s:=hF4.size;have H4:=Lib.hid (And.intro hC4 (And.intro hM4 hF4));clear hC4 hM4 hF4
        | go_at_call 293;refine (hsw _ b0 m0 (hs.fr _ _ [] _ HJ.out.2.2.2.2.2.2.2.2.2 H4.out.2.2 (by simp)) H4.out.1 hbm (fun hm=>by have:=hDl _ hm;omega) (fun hm=>by have:=hDl _ hm;omega) H4.out.2.1).mono ?_;rintro e w5 ⟨rfl,hR5,hC5,⟨k0,i0,hG5⟩,hF5⟩;have h5s:=hF5.size;have H5:=Lib.hid (And.intro hR5 (And.intro hC5 (And.intro hG5 hF5)));clear hR5 hC5 hG5 hF5 hsw
        | (with_reducible refine (hkq _ H5.out.1).mono ?_);rintro e w6 ⟨rfl,hR6,hF6⟩;have h6s:=hF6.size;have H6:=Lib.hid (And.intro hR6 hF6);clear hR6 hF6
        | go_at_call 288;have hF36 : Fr S wr w6:=(Fr.trans (S:=S) (S':=S) (Fr.trans (S:=S) (S':=b0 :: m0 :: S) (H4.out.2.2.mono (by simp)) H5.out.2.2.2 (fun k hk hl=>by rcases List.mem_cons.1 hk with rfl|hk;omega;rcases List.mem_cons.1 hk with rfl|hk;omega;exact hk)) H6.out.2 (fun k hk _=>hk));have hFw : Fr (bm :: S) w w6:=HJ.out.2.2.2.2.2.2.2.1.trans hF36 (fun k hk _=>List.mem_cons_of_mem _ hk);have p1:=hFw.blk HQ.out.1 (by simp;exact ⟨hmb,hmS⟩);have p2:=HJ.out.2.2.2.2.2.2.2.2.1.fr hF36 hbS;have p3:=H6.out.2.blk H5.out.2.1 (fun hm=>by have:=hS _ hm;omega);(with_reducible refine (mhPut (c:=n) (m:=m0) p1 p2 p3 hln).mono ?_);clear p1 p2 p3;rintro e w7 ⟨rfl,hM7,hF7⟩;have H7:=Lib.hid (And.intro hF36 (And.intro hFw (And.intro hM7 hF7)));clear hF36 hFw hM7 hF7)
      go_roundg (cs.length - (j + 1))
      case measure=>have:=HJ.out.1;omega
      case rel =>
        obtain ⟨hjk,hN,hrows,htk,hnt,hp,hq,hFr,hMr,hRr⟩:=HJ.out
        obtain ⟨hC4,hM4,hF4⟩:=H4.out
        obtain ⟨hR5,hC5,hG5,hF5⟩:=H5.out
        obtain ⟨hR6,hF6⟩:=H6.out
        obtain ⟨hF36,hFw,hM7,hF7⟩:=H7.out
        have h7s:=hF7.size
        have hmap : (cs.take (j + 1)).map (fun c=>(c,Value.pointer (some ⟨upd cb n b0 c,0,none⟩))) = ((cs.take j).map fun c=>(c,Value.pointer (some ⟨cb c,0,none⟩))) ++ [(n,.pointer (some ⟨b0,0,none⟩))]:=by
          rw [htk,List.map_append,List.map_singleton,upd_same]
          congr 1
          exact List.map_congr_left fun m hm=>by rw [upd_ne (fun e=>hnt (by rw [← e];exact hm))]
        refine ⟨j + 1,N + q,upd cb n b0,upd bc n m0,upd ks n k0,upd ib n i0,by first|(push_cast;rfl)|(rw [wrap64_in (by omega) (by omega)];push_cast;rfl),by first|(push_cast;rfl)|(rw [wrap64_in (by omega) (by omega)];push_cast;rfl),by omega,by omega,?_,?_,?_,?_⟩
        · have e : i4 + ((cs.take (j + 1)).flatMap (codeB l)).length = q:=by rw [htk,List.flatMap_append,List.length_append,List.flatMap_singleton,codeB_len];omega
          rw [e];exact hs.fr _ _ _ _ hR6 hF7 (by simp;exact hbD)
        · rw [hmap];exact hM7
        · intro m hm
          rw [htk] at hm
          rcases List.mem_append.1 hm with hm|hm
          · have hne : m ≠ n:=fun e=>hnt (by rw [← e];exact hm)
            rw [upd_ne hne,upd_ne hne,upd_ne hne,upd_ne hne]
            obtain ⟨e1,e2,e3⟩:=hrows m hm
            refine ⟨hF7.blk (hF36.blk e1 (fun hm=>by have:=hS _ hm;omega)) (by simp;omega),e2,((e3.fr hF36 (fun k hk hd=>by have:=hS _ hk;have:=hd.1;omega)).fr hF7 (by simp [Rg];omega)).mono fun b hb h=>⟨h.1,hb⟩⟩
          · simp at hm;subst hm
            rw [upd_same,upd_same,upd_same,upd_same]
            refine ⟨hF7.blk (hF6.blk hC5 (fun hm=>by have:=hS _ hm;omega)) (by simp;omega),by omega,?_⟩
            have hG7:=((hG5.mono (D':=Rg w.heap.size w5.heap.size) (fun b hb h=>⟨by rcases h with h|h;simp at h;omega;have:=h.1;omega,hb⟩)).fr hF6 (fun k hk hd=>by have:=hS _ hk;have:=hd.1;omega)).fr hF7 (by simp [Rg];omega)
            exact hG7.mono fun b hb h=>⟨h.1,hb⟩
        · exact hFw.trans hF7 (by simp)
    · have hjE : j = cs.length:=by omega
      have hjz : ¬ (j : Int) < (cs.length : Int):=by omega
      go_wp2
      go_ret
      rw [hjE,List.take_length] at hRr hMr hrows
      refine ⟨rfl,by rw [hgE.out,← Nat.add_assoc,← hi4.out];exact hRr,⟨cs,cb,bc,ks,ib,⟨Tx,hFr.blk HQ.out.1 (by simp;exact ⟨hmb,hmS⟩)⟩,.inl (by simp),hMr,.inl (by simp),by rw [hcs.out];exact asc_nodup (ascOf_asc _),fun n=>by rw [hcs.out];exact mem_ascOf _ _,fun n hn=>?_⟩,hFr⟩
      obtain ⟨h1,h2,h3⟩:=hrows n hn
      exact ⟨h1,.inr ⟨h2,h1.lt⟩,h3.mono fun b hb h=>.inr ⟨h.1,hb⟩⟩
end
end Go.Proofs.Wx

namespace Go.Proofs.Wx
open Go Go.RowKit
/-- a, of dynamic type T, is written by slices. It lies in the blocks P and in the block of the slice v; K w v ys: it holds ys. -/
structure Snk (T : TypeId) (a : Addr) (P : List Nat) (base : Nat) (K : World → Value → List UInt8 → Prop) (f : Nat) : Prop where
  ahead : ∀ w, (nilAhead 615 T (.pointer (some a)) "Write").run Tryz.prog w = .ok (some false) w
  meth : ∀ w, (method 615 T (.pointer (some a)) "Write").run Tryz.prog w = .ok (f, .pointer (some a)) w
  enter : ∀ w x,(callFunc f #[.pointer (some a),x]).run Tryz.prog w = .ok (.enter f #[.pointer (some a),x]) w
  lt : ∀ {w v ys},K w v ys → ∀ k ∈ P,k < w.heap.size
  own : ∀ {w v ys},K w v ys → ∀ k,v.ownBlock = some k → base ≤ k ∧ k < w.heap.size
  keep : ∀ {w w' v ys S},K w v ys → Fr S w w' → (∀ k ∈ S,k ∉ P ∧ (k < base ∨ v.ownBlock ≠ some k)) → K w' v ys
  write : ∀ {w v ys b so n c2 xs},K w v ys → Bs w b so xs → xs.length = n → 0 < n → b ∉ P → v.ownBlock ≠ some b → (ys = [] → n ≤ 64) → ys.length + n < 10000000 → base ≤ w.heap.size →
    Calls Tryz.prog f #[.pointer (some a),.slice (some ⟨b,so,none⟩) n c2] w fun e w'=>e = .returned (.tuple #[.int .i64 n,.nilIface]) ∧
      ∃ v',K w' v' (ys ++ xs) ∧ (v'.ownBlock = v.ownBlock ∨ ∃ k,v'.ownBlock = some k ∧ w.heap.size ≤ k) ∧ Fr (P ++ v.ownBlock.toList) w w'
/-- From the world w, in which it holds ys, the world w' has come, in which it holds ys'; nothing else has turned. -/
structure SW (P : List Nat) (K : World → Value → List UInt8 → Prop) (w : World) (v : Value) (w' : World) (v' : Value) (ys' : List UInt8) : Prop where
  buf : K w' v' ys'
  own : v'.ownBlock = v.ownBlock ∨ ∃ k,v'.ownBlock = some k ∧ w.heap.size ≤ k
  fr : Fr (P ++ v.ownBlock.toList) w w'
section
variable {T : TypeId} {a : Addr} {P : List Nat} {base f : Nat} {K : World → Value → List UInt8 → Prop} {w w' w'' : World} {v v' v'' : Value} {ys ys' ys'' : List UInt8}
theorem SW.refl (h : K w v ys) : SW P K w v w v ys:=⟨h,.inl rfl,Fr.refl⟩
theorem SW.trans (h : SW P K w v w' v' ys') (h' : SW P K w' v' w'' v'' ys'') : SW P K w v w'' v'' ys'':=by
  refine ⟨h'.buf,?_,h.fr.trans h'.fr ?_⟩
  · rcases h'.own with e|⟨k,e,hk⟩
    · rcases h.own with e1|⟨k,e1,hk⟩
      · exact .inl (e.trans e1)
      · exact .inr ⟨k,e.trans e1,hk⟩
    · exact .inr ⟨k,e,Nat.le_trans h.fr.size hk⟩
  · intro k hk hl
    rcases List.mem_append.1 hk with hk|hk
    · exact List.mem_append_left _ hk
    · have hk' : v'.ownBlock = some k:=by simpa using hk
      rcases h.own with e1|⟨k',e1,hk2⟩
      · rw [← e1];simp [hk']
      · rw [hk'] at e1;cases e1;omega
theorem SW.step (hs : Snk T a P base K f) {X : List Nat} (h : SW P K w v w' v' ys') (hf : Fr X w' w'') (hX : ∀ k ∈ X,k ∉ P ∧ v'.ownBlock ≠ some k ∧ w.heap.size ≤ k) : SW P K w v w'' v' ys' :=
  ⟨hs.keep h.buf hf (fun k hk=>⟨(hX k hk).1,.inr (hX k hk).2.1⟩),h.own,h.fr.trans hf fun k hk hl=>by have:=(hX k hk).2.2;omega⟩
theorem SW.same (hs : Snk T a P base K f) (h : SW P K w v w' v' ys') (hf : Fr [] w' w'') : SW P K w v w'' v' ys':=h.step hs hf (by simp)
theorem SW.keep (h : SW P K w v w' v' ys') {b : Nat} {cs : List Value} {T : TypeId} {fr : Nat × Nat} (hb : Blk w b cs T fr) (h1 : b ∉ P) (h2 : v.ownBlock ≠ some b) : Blk w' b cs T fr :=
  h.fr.blk hb (by simp;exact ⟨h1,h2⟩)
theorem SW.keepB (h : SW P K w v w' v' ys') {b o : Nat} {xs : List UInt8} (hb : Bs w b o xs) (h1 : b ∉ P) (h2 : v.ownBlock ≠ some b) : Bs w' b o xs :=
  hb.fr h.fr (by simp;exact ⟨h1,h2⟩)
theorem SW.own_ne (h : SW P K w v w' v' ys') {b : Nat} (hb : b < w.heap.size) (h2 : v.ownBlock ≠ some b) : v'.ownBlock ≠ some b:=by
  intro e
  rcases h.own with e1|⟨k,e1,hk⟩
  · exact h2 (e1 ▸ e)
  · rw [e] at e1;cases e1;omega
theorem Snk.wr (hs : Snk T a P base K f) {b so n c2 : Nat} {xs : List UInt8} (hK : K w v ys) (hB : Bs w b so xs) (hn : xs.length = n) (h0 : 0 < n) (hbp : b ∉ P) (hbv : v.ownBlock ≠ some b) (hfirst : ys = [] → n ≤ 64) (hlen : ys.length + n < 10000000) (hbase : base ≤ w.heap.size) :
    Calls Tryz.prog f #[.pointer (some a),.slice (some ⟨b,so,none⟩) n c2] w fun e w'=>e = .returned (.tuple #[.int .i64 n,.nilIface]) ∧ ∃ v',SW P K w v w' v' (ys ++ xs) :=
  (hs.write hK hB hn h0 hbp hbv hfirst hlen hbase).mono fun e w' ⟨h1,v',h2,h3,h4⟩=>⟨h1,v',h2,h3,h4⟩
theorem write64S (hs : Snk T a P base K f) {x : Nat} (hK : K w v ys) (hx : x < 18446744073709551616) (hlen : ys.length < 9000000) (hbase : base ≤ w.heap.size) :
    Calls Tryz.prog 299 #[.iface T (.pointer (some a)),.int .u64 x] w fun e w'=>e = .returned .nilIface ∧ ∃ v',SW P K w v w' v' (ys ++ Lib.leBytes 8 x):=by
  have hpb:=hs.lt hK
  have hol:=hs.own hK
  have hah:=hs.ahead
  have hme:=hs.meth
  have hen:=hs.enter
  have L:=Lib.hid (And.intro hx hlen)
  have hGP : w.heap.size ∉ P:=fun h=>Nat.lt_irrefl _ (hpb _ h)
  have hwr:=fun (w2 : World) (hW : SW P K w v w2 v ys) (hB : Bs w2 w.heap.size 0 (Lib.leBytes 8 x))=>hs.wr (c2:=8) (n:=8) hW.buf hB (by rw [Lib.leBytes_length]) (by omega) hGP (fun e=>by have:=hol _ e;omega) (fun _=>by omega) (by omega) (Nat.le_trans hbase hW.fr.size)
  clear hx hlen
  go_enter Tryz.func299,Tryz.ntmps299
  go_wp2_with (first
    | ((with_reducible refine list_makeSlice (fun K hK=>?_));  refine makeB _ _ rfl _ _ _ _ 8 8 rfl rfl rfl rfl (by omega) (by omega) ?_)
    | go_at_call 68;refine (putU64 (cs:=List.replicate 8 (.int .u8 0)) L.out.1 (Blk.conv (Blk.newAt rfl) rfl) (by omega) (by simp)).mono ?_;rintro e w2 ⟨rfl,hg2,hF2⟩;have hW2:=(SW.refl (P:=P) hK).step hs (X:=[w.heap.size]) (Fr.trans (S:=[w.heap.size]) (by exact frP) hF2 (by simp)) (by simp;exact ⟨hGP,fun e=>by have:=hol _ e;omega⟩);have hb2:=Blk.bsAll (xs:=Lib.leBytes 8 x) hg2 (lay_all (by simp [Lib.leBytes_length]))
    | (with_reducible refine (hwr _ hW2 hb2).mono ?_);rintro e w3 ⟨rfl,v',hW3⟩)
  go_ret
  exact ⟨rfl,v',hW2.trans hW3⟩
theorem write32S (hs : Snk T a P base K f) {x : Nat} (hK : K w v ys) (hx : x < 4294967296) (hlen : ys.length < 9000000) (hbase : base ≤ w.heap.size) :
    Calls Tryz.prog 289 #[.iface T (.pointer (some a)),.int .u32 x] w fun e w'=>e = .returned .nilIface ∧ ∃ v',SW P K w v w' v' (ys ++ Lib.leBytes 4 x):=by
  have hpb:=hs.lt hK
  have hol:=hs.own hK
  have hah:=hs.ahead
  have hme:=hs.meth
  have hen:=hs.enter
  have L:=Lib.hid (And.intro hx hlen)
  have hGP : w.heap.size ∉ P:=fun h=>Nat.lt_irrefl _ (hpb _ h)
  have hwr:=fun (w2 : World) (hW : SW P K w v w2 v ys) (hB : Bs w2 w.heap.size 0 (Lib.leBytes 4 x))=>hs.wr (c2:=4) (n:=4) hW.buf hB (by rw [Lib.leBytes_length]) (by omega) hGP (fun e=>by have:=hol _ e;omega) (fun _=>by omega) (by omega) (Nat.le_trans hbase hW.fr.size)
  clear hx hlen
  go_enter Tryz.func289,Tryz.ntmps289
  go_wp2_with (first
    | ((with_reducible refine list_makeSlice (fun K hK=>?_));  refine makeB _ _ rfl _ _ _ _ 4 4 rfl rfl rfl rfl (by omega) (by omega) ?_)
    | go_at_call 297;refine (putU32 (cs:=List.replicate 4 (.int .u8 0)) L.out.1 (Blk.conv (Blk.newAt rfl) rfl) (by omega) (by simp)).mono ?_;rintro e w2 ⟨rfl,hg2,hF2⟩;have hW2:=(SW.refl (P:=P) hK).step hs (X:=[w.heap.size]) (Fr.trans (S:=[w.heap.size]) (by exact frP) hF2 (by simp)) (by simp;exact ⟨hGP,fun e=>by have:=hol _ e;omega⟩);have hb2:=Blk.bsAll (xs:=Lib.leBytes 4 x) hg2 (lay_all (by simp [Lib.leBytes_length]))
    | (with_reducible refine (hwr _ hW2 hb2).mono ?_);rintro e w3 ⟨rfl,v',hW3⟩)
  go_ret
  exact ⟨rfl,v',hW2.trans hW3⟩
end
/-- A bytes.Buffer is one. -/
theorem bufSnk (p base : Nat) : Snk 86 ⟨p,0,none⟩ [p] base (fun w v ys=>Buf w p base v ys ∧ (ys = [] → v = .slice none 0 0)) 262 where
  ahead _:=ahead_bytes_Buffer_Write _ _
  meth _:=meth_bytes_Buffer_Write _ _
  enter _ _:=by kernel_rfl
  lt h k hk:=by obtain ⟨⟨lr,hp⟩,_⟩:=h.1;simp at hk;subst hk;exact hp.lt
  own h k hk:=h.1.ownLt k hk
  keep h hf hS:=⟨h.1.fr hf (fun hm=>by have:=(hS _ hm).1;simp at this) (fun k hk=>(hS k hk).2),h.2⟩
  write hK hB hn h0 hbp hbv hfirst hlen hbase:=by
    refine (bufWn hK.1 hB hn h0 (by simpa using hbp) hbv (fun e=>⟨hK.2 e,hfirst e⟩) (by omega) hbase).mono ?_
    rintro e w' ⟨h1,v',h2,h3,h4⟩
    exact ⟨h1,v',⟨h2,fun e=>by subst hn;exact absurd (List.append_eq_nil_iff.1 e).2 (List.length_pos_iff.1 h0)⟩,h3,by simpa using h4⟩
end Go.Proofs.Wx

namespace Go.Proofs.Wx
open Go
theorem log128 {n : Nat} (h : 128 ≤ n) : Nat.log2 n = Nat.log2 (n / 128) + 7:=by
  have e : ∀ m : Nat,2 ≤ m → m.log2 = (m / 2).log2 + 1:=fun m h=>by rw [Nat.log2_def,if_pos h]
  rw [e n (by omega),e (n / 2) (by omega),e (n / 2 / 2) (by omega),e (n / 2 / 2 / 2) (by omega),e (n / 2 / 2 / 2 / 2) (by omega),e (n / 2 / 2 / 2 / 2 / 2) (by omega),e (n / 2 / 2 / 2 / 2 / 2 / 2) (by omega),
    show n / 2 / 2 / 2 / 2 / 2 / 2 / 2 = n / 128 by omega]
theorem uvLen (n : Nat) : (Lib.uvarint n).length = if n = 0 then 1 else Nat.log2 n / 7 + 1:=by
  induction n using Nat.strongRecOn with
  | ind n ih =>
    by_cases h : n < 128
    · rw [Lib.uvarint_small h]
      by_cases h0 : n = 0
      · rw [if_pos h0];rfl
      · have:=(Nat.log2_lt h0 (k:=7)).2 (by omega)
        rw [if_neg h0];simp;omega
    · have h1 : ¬ n = 0:=by omega
      have h2 : ¬ n / 128 = 0:=by omega
      have h3:=log128 (n:=n) (by omega)
      rw [Lib.uvarint_big (by omega),List.length_cons,ih (n / 128) (by omega),if_neg h1,if_neg h2,h3]
      omega
theorem uvLen_bits {n b : Nat} (hb : b = if n = 0 then 0 else Nat.log2 n + 1) : (Lib.uvarint n).length = if 0 < b % 7 ∨ b / 7 = 0 then b / 7 + 1 else b / 7:=by
  rw [uvLen,hb]
  by_cases h0 : n = 0
  · simp [h0]
  · simp only [h0,if_false]
    split <;> omega
end Go.Proofs.Wx
