import Derived.Test.YtdokbceiganhdaaGreatDoorM2
import Derived.Test.YtdokbceiganhdaaGreatDoorM7
set_option maxRecDepth 100000
set_option maxHeartbeats 1000000
set_option linter.unusedVariables false
set_option linter.unusedSimpArgs false
set_option linter.deprecated false
set_option linter.all false
set_option linter.unusedSectionVars false
namespace Go.Proofs.Wx
open Go Go.RowKit
theorem drop_two {xs a b c : List UInt8} {i : Nat} (h : xs.drop i = a ++ (b ++ c)) : xs.drop (i + a.length + b.length) = c:=by
  rw [← List.drop_drop,← List.drop_drop,h];simp
theorem zzDecodeHeader {ea : Addr} {w : World} {v : Value} {sb hb : Nat} {hv : Value} {ver : Nat} {l : List CidM} (hS : Sl w v sb (hbB l)) (hH : Blk w hb [hv,.int .u64 ver] 182 (0,0)) (hne : hb ≠ sb) (hG : Gl ea w) (hg : 28 ≤ hb)
    (hl : l.length ≤ 50) (hok : ∀ c ∈ l,c.Ok) :
    Calls Tryz.prog 122 #[v,.pointer (some ⟨hb,0,none⟩)] w fun e w' =>
      ∃ hv',e = .returned .nilIface ∧ Blk w' hb [hv',.int .u64 1] 182 (0,0) ∧ Fr [hb] w w':=by
  obtain ⟨so,sc,rfl,hsl,hsl2,hB⟩:=hS
  have hrd:=newReader hB hsl hsl2 hG.size
  have hlen:=hbB_length hl hok
  have hx0 : (hbB l).drop 0 = hdB 5 2 ++ (hdB 3 5 ++ (sRoots ++ (hdB 4 l.length ++ (rootsB l ++ (hdB 3 7 ++ (sVersion ++ hdB 0 1)))))):=rfl
  have hx1':=hx0
  have hx1 : (hbB l).drop (0 + (hdB 5 2).length) = hdB 3 5 ++ (sRoots ++ (hdB 4 l.length ++ (rootsB l ++ (hdB 3 7 ++ (sVersion ++ hdB 0 1))))):=by rw [← List.drop_drop,hx0];simp
  have hx2 : (hbB l).drop (0 + (hdB 5 2).length + (hdB 3 5).length + 5) = hdB 4 l.length ++ (rootsB l ++ (hdB 3 7 ++ (sVersion ++ hdB 0 1))):=drop_two (b:=sRoots) hx1
  have hx3 : (hbB l).drop (0 + (hdB 5 2).length + (hdB 3 5).length + 5 + (hdB 4 l.length).length + (rootsB l).length) = hdB 3 7 ++ (sVersion ++ (hdB 0 1 ++ [])):=by rw [List.append_nil];exact drop_two hx2
  have hx4 : (hbB l).drop (0 + (hdB 5 2).length + (hdB 3 5).length + 5 + (hdB 4 l.length).length + (rootsB l).length + (hdB 3 7).length + 7) = hdB 0 1 ++ []:=drop_two (b:=sVersion) hx3
  generalize hbB l = xs at *
  have hlt:=hB.lt
  have hhl:=hH.lt
  have hgs:=hG.size
  go_enter Tryz.func122,Tryz.ntmps122
  go_wp2_with (first
    | go_at_call 33;refine hrd.mono ?_;rintro e w1 ⟨rfl,hR1,hF1⟩
    | go_at_call 146;refine (newDecoder hR1).mono ?_;rintro e w2 ⟨d,z,q,sk,lf,cs,cl,rfl,hD2,hnew,hF2⟩)
  have hsz1:=hF1.size
  have hsz2:=hF2.size
  have hT3 : Blk (w2.alloc (.cells #[.int .u8 0,.int .i64 0,.string ⟨#[]⟩,.slice none 0 0,.bool false,.int .i64 0,.int .u64 0,.float .f64 0,.bool false,.int .i64 0] 312)) w2.heap.size (tk0 FZ) 312 (0,0):=Blk.new
  have hF3 : Fr [] w2 (w2.alloc (.cells #[.int .u8 0,.int .i64 0,.string ⟨#[]⟩,.slice none 0 0,.bool false,.int .i64 0,.int .u64 0,.float .f64 0,.bool false,.int .i64 0] 312)):=Fr.alloc Fr.refl
  generalize w2.alloc (.cells #[.int .u8 0,.int .i64 0,.string ⟨#[]⟩,.slice none 0 0,.bool false,.int .i64 0,.int .u64 0,.float .f64 0,.bool false,.int .i64 0] 312) = w3 at *
  obtain ⟨c0,c1,cs,rfl⟩ : ∃ a b c,cs = a :: b :: c:=by
    have:=hD2.lk
    match cs,this with
    | a :: b :: c,_=>exact ⟨a,b,c,rfl⟩
  obtain ⟨l0,l1,cl,rfl⟩ : ∃ a b c,cl = a :: b :: c:=by
    have:=hD2.ll
    match cl,this with
    | a :: b :: c,_=>exact ⟨a,b,c,rfl⟩
  have hltD : d < w2.heap.size ∧ z < w2.heap.size ∧ q < w2.heap.size ∧ sk < w2.heap.size ∧ lf < w2.heap.size:=by
    obtain ⟨h1,⟨⟨scr,_,hB⟩,⟨⟨a,b,c,hb,_⟩,hr,_⟩,_⟩,h3,h4,_⟩:=hD2
    exact ⟨h1.lt,hB.lt,hb.lt,h3.lt,h4.lt⟩
  have hrs:=hR1.lt
  have hW3 : Fr [] w w3:=(hF1.trans hF2 (by simp)).trans hF3 (by simp)
  have hG3:=hG.fr hW3 (by simp)
  have hH3:=hW3.blk hH (by simp)
  have hD3:=hD2.fr hF3 (by simp)
  have hoT : Off w2.heap.size d z q w.heap.size sb sk lf:=by unfold Off;omega
  have hoH : Off hb d z q w.heap.size sb sk lf:=by unfold Off;omega
  have hTh : w2.heap.size ≠ hb:=by omega
  have hTw : w.heap.size < w2.heap.size:=by omega
  have hrW : w.heap.size ≤ w.heap.size:=Nat.le_refl _
  generalize w2.heap.size = T at *
  clear hF1 hF2 hF3 hR1 hD2 hrd hsz1 hsz2
  have hTh':=Ne.symm hTh
  obtain ⟨o1,o2,o3,o4,o5,o6,o7,o8⟩:=hoH
  have hoH : Off hb d z q w.heap.size sb sk lf:=⟨o1,o2,o3,o4,o5,o6,o7,o8⟩
  generalize hre : w.heap.size = r at *
  have Hre:=Lib.hid hre
  clear hre
  have hge4 : ∀ k ∈ [d,z,q,r,sk,lf,T],28 ≤ k:=by simp;omega
  have hge5 : ∀ k ∈ [d,z,q,r,sk,lf,hb],28 ≤ k:=by simp;omega
  have hhn : hb ∉ [d,z,q,r,sk,lf,T]:=by simp;omega
  have hTn : T ∉ [d,z,q,r,sk,lf,hb]:=by obtain ⟨a,b,c,d,e,f,g,h⟩:=hoT;simp;omega
  have hnew2 : ∀ k ∈ [d,z,q,r,sk,lf,T],r ≤ k:=by simp;omega
  refine (stepMapOpen (k:=2) hD3 hT3 hoT hG3 hx1' (by omega)).mono ?_
  rintro e w4 ⟨rfl,hD4,hT4,hF4⟩
  have tc4:=hT4.cells
  have hH4:=hF4.blk hH3 hhn
  have hG4:=hG3.fr hF4 hge4
  have hW4 : Fr [hb] w w4:=(hW3.mono (by simp)).trans hF4 (fun k hk hkl=>by have:=hnew2 k hk;have:=Hre.out;omega)
  go_wp2_with (first|(with_reducible refine wp_loop_rounds 3 ?_;rw [rounds_succ])|(with_reducible rw [rounds_succ])|((with_reducible refine list_store 312 (fun K hK=>?_));refine storeRow _ _ _ rfl T (tk0 FZ) rfl rfl _ _ hT4 (by kernel_rfl) rfl rfl (fun w5 hT5 hF5=>?_)))
  have hD5:=hD4.fr hF5 (by simp;exact ⟨hoT.1,hoT.2.1,hoT.2.2.1,hoT.2.2.2.1,hoT.2.2.2.2.1,hoT.2.2.2.2.2.1,hoT.2.2.2.2.2.2.1⟩)
  refine (stepKey (k:=1) (s:=sRoots) hD5 hT5 hoT (hG4.fr hF5 (by simp;omega)) (by omega) hx1 (by simp [sRoots]) (by simp [sRoots])).mono ?_
  rintro e w6 ⟨rfl,hD6,hT6,hF6⟩
  have tc6:=hT6.cells
  have hF46 : Fr [d,z,q,r,sk,lf,T] w4 w6:=(hF5.mono (by simp)).trans hF6 (by simp)
  have hH6:=hF46.blk hH4 hhn
  have hG6:=hG4.fr hF46 hge4
  have hW6 : Fr [hb] w w6:=hW4.trans hF46 (fun k hk hkl=>by have:=hnew2 k hk;have:=Hre.out;omega)
  clear tc4
  go_wp2_with (first|(with_reducible refine wp_loop_rounds 3 ?_;rw [rounds_succ])|(with_reducible rw [rounds_succ])|fail)
  refine (zzDecodeRoots hD6 hH6 hoH hG6 hx2 hl hok).mono ?_
  rintro e w7 ⟨hv7,cs7,cl7,rfl,hD7,hH7,hF7⟩
  have hT7:=hF7.blk hT6 hTn
  have hG7:=hG6.fr hF7 hge5
  have hW7 : Fr [hb] w w7:=hW6.trans hF7 (fun k hk hkl=>by
    have:=Hre.out
    simp only [List.mem_cons,List.not_mem_nil,or_false] at hk
    rcases hk with h|h|h|h|h|h|h
    all_goals first|(simp [h];done)|omega)
  clear tc6
  go_wp2_with (first|(with_reducible refine wp_loop_rounds 3 ?_;rw [rounds_succ])|(with_reducible rw [rounds_succ])|((with_reducible refine list_store 312 (fun K hK=>?_));refine storeRow _ _ _ rfl T (tk0 FZ) rfl rfl _ _ hT7 (by kernel_rfl) rfl rfl (fun w8 hT8 hF8=>?_)))
  have hD8:=hD7.fr hF8 (by simp;exact ⟨hoT.1,hoT.2.1,hoT.2.2.1,hoT.2.2.2.1,hoT.2.2.2.2.1,hoT.2.2.2.2.2.1,hoT.2.2.2.2.2.2.1⟩)
  refine (stepKey (k:=0) (s:=sVersion) hD8 hT8 hoT (hG7.fr hF8 (by simp;omega)) (by omega) hx3 (by simp [sVersion]) (by simp [sVersion])).mono ?_
  rintro e w9 ⟨rfl,hD9,hT9,hF9⟩
  have tc9:=hT9.cells
  have hF79 : Fr [d,z,q,r,sk,lf,T] w7 w9:=(hF8.mono (by simp)).trans hF9 (by simp)
  have hH9:=hF79.blk hH7 hhn
  have hG9:=hG7.fr hF79 hge4
  have hW9 : Fr [hb] w w9:=hW7.trans hF79 (fun k hk hkl=>by have:=hnew2 k hk;have:=Hre.out;omega)
  go_wp2_with (first|(with_reducible refine wp_loop_rounds 3 ?_;rw [rounds_succ])|(with_reducible rw [rounds_succ])|((with_reducible refine list_store 312 (fun K hK=>?_));refine storeRow _ _ _ rfl T (tk0 FZ) rfl rfl _ _ hT9 (by kernel_rfl) rfl rfl (fun w10 hT10 hF10=>?_)))
  have hD10:=hD9.fr hF10 (by simp;exact ⟨hoT.1,hoT.2.1,hoT.2.2.1,hoT.2.2.2.1,hoT.2.2.2.2.1,hoT.2.2.2.2.2.1,hoT.2.2.2.2.2.2.1⟩)
  refine (stepUint (k:=1) hD10 hT10 hoT (hG9.fr hF10 (by simp;omega)) hx4 (by omega)).mono ?_
  rintro e w11 ⟨rfl,hD11,hT11,hF11⟩
  have tc11:=hT11.cells
  have hF911 : Fr [d,z,q,r,sk,lf,T] w9 w11:=(hF10.mono (by simp)).trans hF11 (by simp)
  have hH11:=hF911.blk hH9 hhn
  have hc11:=hH11.cells
  have hf11:=hH11.free
  have hW11 : Fr [hb] w w11:=hW9.trans hF911 (fun k hk hkl=>by have:=hnew2 k hk;have:=Hre.out;omega)
  clear tc9
  have hHs : Blk (w11.setCell ⟨hb,1,none⟩ (.int .u64 (1 : Nat))) hb [hv7,.int .u64 1] 182 (0,0):=Blk.conv (Blk.set hH11) rfl
  have hTs:=Blk.setNe (a:=⟨hb,1,none⟩) (v:=.int .u64 (1 : Nat)) hTh' hT11
  have hDs:=hD11.fr (S:=[hb]) (w':=w11.setCell ⟨hb,1,none⟩ (.int .u64 (1 : Nat))) (by exact frP) (by simp [o1,o2,o3,o4,o5,o6,o7])
  have hWs : Fr [hb] w (w11.setCell ⟨hb,1,none⟩ (.int .u64 (1 : Nat))):=Fr.setCell (by simp) hW11
  go_wp2_with (first|(with_reducible refine wp_loop_rounds 3 ?_;rw [rounds_succ])|(with_reducible rw [rounds_succ])|((with_reducible refine list_store 312 (fun K hK=>?_));refine storeRow _ _ _ rfl T (tk0 FZ) rfl rfl _ _ hTs (by kernel_rfl) rfl rfl (fun w12 hT12 hF12=>?_)))
  have hD12:=hDs.fr hF12 (by simp;exact ⟨hoT.1,hoT.2.1,hoT.2.2.1,hoT.2.2.2.1,hoT.2.2.2.2.1,hoT.2.2.2.2.2.1,hoT.2.2.2.2.2.2.1⟩)
  refine (stepMapClose hD12 hT12 hoT).mono ?_
  rintro e w13 ⟨rfl,hT13,hF13⟩
  have tc13:=hT13.cells
  clear tc11
  go_wp2_with (first|(with_reducible refine wp_loop_rounds 3 ?_;rw [rounds_succ])|(with_reducible rw [rounds_succ])|fail)
  go_ret
  have hFs : Fr [d,z,q,r,sk,lf,T] (w11.setCell ⟨hb,1,none⟩ (.int .u64 (1 : Nat))) w13:=(hF12.mono (by simp)).trans hF13 (by simp)
  exact ⟨hv7,rfl,hFs.blk hHs hhn,hWs.trans hFs (fun k hk hkl=>by have:=hnew2 k hk;have:=Hre.out;omega)⟩
end Go.Proofs.Wx

namespace Go.Proofs.Wx
open Go Go.RowKit
/-- The map of the pragma. -/
def pgB : List UInt8:=hdB 5 1 ++ (hdB 3 7 ++ (sVersion ++ hdB 0 2))
theorem zzDecodePragma {ea : Addr} {w : World} {v : Value} {sb hb : Nat} {hv : Value} {ver : Nat} {xs : List UInt8} (hxs : xs = hdB 5 1 ++ (hdB 3 7 ++ (sVersion ++ (hdB 0 2 ++ [])))) (hS : Sl w v sb xs) (hH : Blk w hb [hv,.int .u64 ver] 182 (0,0)) (hne : hb ≠ sb) (hG : Gl ea w) (hg : 28 ≤ hb) :
    Calls Tryz.prog 122 #[v,.pointer (some ⟨hb,0,none⟩)] w fun e w' =>
      ∃ hv',e = .returned .nilIface ∧ Blk w' hb [hv',.int .u64 2] 182 (0,0) ∧ Fr [hb] w w':=by
  obtain ⟨so,sc,rfl,hsl,hsl2,hB⟩:=hS
  have hrd:=newReader hB hsl hsl2 hG.size
  have hx0 : xs.drop 0 = hdB 5 1 ++ (hdB 3 7 ++ (sVersion ++ (hdB 0 2 ++ []))):=hxs
  have hx3 : xs.drop (0 + (hdB 5 1).length) = hdB 3 7 ++ (sVersion ++ (hdB 0 2 ++ [])):=by rw [← List.drop_drop,hx0];simp
  have hx4 : xs.drop (0 + (hdB 5 1).length + (hdB 3 7).length + 7) = hdB 0 2 ++ []:=drop_two (b:=sVersion) hx3
  clear hxs
  have hlt:=hB.lt
  have hhl:=hH.lt
  have hgs:=hG.size
  go_enter Tryz.func122,Tryz.ntmps122
  go_wp2_with (first
    | go_at_call 33;refine hrd.mono ?_;rintro e w1 ⟨rfl,hR1,hF1⟩
    | go_at_call 146;refine (newDecoder hR1).mono ?_;rintro e w2 ⟨d,z,q,sk,lf,cs,cl,rfl,hD2,hnew,hF2⟩)
  have hsz1:=hF1.size
  have hsz2:=hF2.size
  have hT3 : Blk (w2.alloc (.cells #[.int .u8 0,.int .i64 0,.string ⟨#[]⟩,.slice none 0 0,.bool false,.int .i64 0,.int .u64 0,.float .f64 0,.bool false,.int .i64 0] 312)) w2.heap.size (tk0 FZ) 312 (0,0):=Blk.new
  have hF3 : Fr [] w2 (w2.alloc (.cells #[.int .u8 0,.int .i64 0,.string ⟨#[]⟩,.slice none 0 0,.bool false,.int .i64 0,.int .u64 0,.float .f64 0,.bool false,.int .i64 0] 312)):=Fr.alloc Fr.refl
  generalize w2.alloc (.cells #[.int .u8 0,.int .i64 0,.string ⟨#[]⟩,.slice none 0 0,.bool false,.int .i64 0,.int .u64 0,.float .f64 0,.bool false,.int .i64 0] 312) = w3 at *
  obtain ⟨c0,c1,cs,rfl⟩ : ∃ a b c,cs = a :: b :: c:=by
    have:=hD2.lk
    match cs,this with
    | a :: b :: c,_=>exact ⟨a,b,c,rfl⟩
  obtain ⟨l0,l1,cl,rfl⟩ : ∃ a b c,cl = a :: b :: c:=by
    have:=hD2.ll
    match cl,this with
    | a :: b :: c,_=>exact ⟨a,b,c,rfl⟩
  have hltD : d < w2.heap.size ∧ z < w2.heap.size ∧ q < w2.heap.size ∧ sk < w2.heap.size ∧ lf < w2.heap.size:=by
    obtain ⟨h1,⟨⟨scr,_,hB⟩,⟨⟨a,b,c,hb,_⟩,hr,_⟩,_⟩,h3,h4,_⟩:=hD2
    exact ⟨h1.lt,hB.lt,hb.lt,h3.lt,h4.lt⟩
  have hrs:=hR1.lt
  have hW3 : Fr [] w w3:=(hF1.trans hF2 (by simp)).trans hF3 (by simp)
  have hG3:=hG.fr hW3 (by simp)
  have hH3:=hW3.blk hH (by simp)
  have hD3:=hD2.fr hF3 (by simp)
  have hoT : Off w2.heap.size d z q w.heap.size sb sk lf:=by unfold Off;omega
  have hoH : Off hb d z q w.heap.size sb sk lf:=by unfold Off;omega
  have hTh : w2.heap.size ≠ hb:=by omega
  have hTw : w.heap.size < w2.heap.size:=by omega
  have hrW : w.heap.size ≤ w.heap.size:=Nat.le_refl _
  generalize w2.heap.size = T at *
  clear hF1 hF2 hF3 hR1 hD2 hrd hsz1 hsz2
  have hTh':=Ne.symm hTh
  obtain ⟨o1,o2,o3,o4,o5,o6,o7,o8⟩:=hoH
  have hoH : Off hb d z q w.heap.size sb sk lf:=⟨o1,o2,o3,o4,o5,o6,o7,o8⟩
  generalize hre : w.heap.size = r at *
  have Hre:=Lib.hid hre
  clear hre
  have hge4 : ∀ k ∈ [d,z,q,r,sk,lf,T],28 ≤ k:=by simp;omega
  have hge5 : ∀ k ∈ [d,z,q,r,sk,lf,hb],28 ≤ k:=by simp;omega
  have hhn : hb ∉ [d,z,q,r,sk,lf,T]:=by simp;omega
  have hTn : T ∉ [d,z,q,r,sk,lf,hb]:=by obtain ⟨a,b,c,d,e,f,g,h⟩:=hoT;simp;omega
  have hnew2 : ∀ k ∈ [d,z,q,r,sk,lf,T],r ≤ k:=by simp;omega
  refine (stepMapOpen (k:=1) hD3 hT3 hoT hG3 hx0 (by omega)).mono ?_
  rintro e w4 ⟨rfl,hD4,hT4,hF4⟩
  have tc4:=hT4.cells
  have hH4:=hF4.blk hH3 hhn
  have hG4:=hG3.fr hF4 hge4
  have hW4 : Fr [hb] w w4:=(hW3.mono (by simp)).trans hF4 (fun k hk hkl=>by have:=hnew2 k hk;have:=Hre.out;omega)
  go_wp2_with (first|(with_reducible refine wp_loop_rounds 2 ?_;rw [rounds_succ])|(with_reducible rw [rounds_succ])|((with_reducible refine list_store 312 (fun K hK=>?_));refine storeRow _ _ _ rfl T (tk0 FZ) rfl rfl _ _ hT4 (by kernel_rfl) rfl rfl (fun w8 hT8 hF8=>?_)))
  have hD8:=hD4.fr hF8 (by simp;exact ⟨hoT.1,hoT.2.1,hoT.2.2.1,hoT.2.2.2.1,hoT.2.2.2.2.1,hoT.2.2.2.2.2.1,hoT.2.2.2.2.2.2.1⟩)
  refine (stepKey (k:=0) (s:=sVersion) hD8 hT8 hoT (hG4.fr hF8 (by simp;omega)) (by omega) hx3 (by simp [sVersion]) (by simp [sVersion])).mono ?_
  rintro e w9 ⟨rfl,hD9,hT9,hF9⟩
  have tc9:=hT9.cells
  have hF79 : Fr [d,z,q,r,sk,lf,T] w4 w9:=(hF8.mono (by simp)).trans hF9 (by simp)
  have hH9:=hF79.blk hH4 hhn
  have hG9:=hG4.fr hF79 hge4
  have hW9 : Fr [hb] w w9:=hW4.trans hF79 (fun k hk hkl=>by have:=hnew2 k hk;have:=Hre.out;omega)
  go_wp2_with (first|(with_reducible refine wp_loop_rounds 3 ?_;rw [rounds_succ])|(with_reducible rw [rounds_succ])|((with_reducible refine list_store 312 (fun K hK=>?_));refine storeRow _ _ _ rfl T (tk0 FZ) rfl rfl _ _ hT9 (by kernel_rfl) rfl rfl (fun w10 hT10 hF10=>?_)))
  have hD10:=hD9.fr hF10 (by simp;exact ⟨hoT.1,hoT.2.1,hoT.2.2.1,hoT.2.2.2.1,hoT.2.2.2.2.1,hoT.2.2.2.2.2.1,hoT.2.2.2.2.2.2.1⟩)
  refine (stepUint (k:=2) hD10 hT10 hoT (hG9.fr hF10 (by simp;omega)) hx4 (by omega)).mono ?_
  rintro e w11 ⟨rfl,hD11,hT11,hF11⟩
  have tc11:=hT11.cells
  have hF911 : Fr [d,z,q,r,sk,lf,T] w9 w11:=(hF10.mono (by simp)).trans hF11 (by simp)
  have hH11:=hF911.blk hH9 hhn
  have hc11:=hH11.cells
  have hf11:=hH11.free
  have hW11 : Fr [hb] w w11:=hW9.trans hF911 (fun k hk hkl=>by have:=hnew2 k hk;have:=Hre.out;omega)
  clear tc9 tc4
  have hHs : Blk (w11.setCell ⟨hb,1,none⟩ (.int .u64 2)) hb [hv,.int .u64 2] 182 (0,0):=Blk.conv (Blk.set hH11) rfl
  have hTs:=Blk.setNe (a:=⟨hb,1,none⟩) (v:=.int .u64 2) hTh' hT11
  have hDs:=hD11.fr (S:=[hb]) (w':=w11.setCell ⟨hb,1,none⟩ (.int .u64 2)) (by exact frP) (by simp [o1,o2,o3,o4,o5,o6,o7])
  have hWs : Fr [hb] w (w11.setCell ⟨hb,1,none⟩ (.int .u64 2)):=Fr.setCell (by simp) hW11
  go_wp2_with (first|(with_reducible refine wp_loop_rounds 3 ?_;rw [rounds_succ])|(with_reducible rw [rounds_succ])|((with_reducible refine list_store 312 (fun K hK=>?_));refine storeRow _ _ _ rfl T (tk0 FZ) rfl rfl _ _ hTs (by kernel_rfl) rfl rfl (fun w12 hT12 hF12=>?_)))
  have hD12:=hDs.fr hF12 (by simp;exact ⟨hoT.1,hoT.2.1,hoT.2.2.1,hoT.2.2.2.1,hoT.2.2.2.2.1,hoT.2.2.2.2.2.1,hoT.2.2.2.2.2.2.1⟩)
  refine (stepMapClose hD12 hT12 hoT).mono ?_
  rintro e w13 ⟨rfl,hT13,hF13⟩
  have tc13:=hT13.cells
  clear tc11
  go_wp2_with (first|(with_reducible refine wp_loop_rounds 3 ?_;rw [rounds_succ])|(with_reducible rw [rounds_succ])|fail)
  go_ret
  have hFs : Fr [d,z,q,r,sk,lf,T] (w11.setCell ⟨hb,1,none⟩ (.int .u64 2)) w13:=(hF12.mono (by simp)).trans hF13 (by simp)
  exact ⟨hv,rfl,hFs.blk hHs hhn,hWs.trans hFs (fun k hk hkl=>by have:=hnew2 k hk;have:=Hre.out;omega)⟩
end Go.Proofs.Wx

namespace Go.Proofs.Wx
open Go Go.RowKit
theorem readHeader {ea : Addr} {w : World} {r sb : Nat} {xs rest : List UInt8} {i : Nat} {l : List CidM} (h : Rdr w r sb xs i) (hx : xs.drop i = headerB l ++ rest) (hG : Gl ea w) (hl : l.length ≤ 50) (hok : ∀ c ∈ l,c.Ok) :
    Calls Tryz.prog 88 #[.iface 74 (.pointer (some ⟨r,0,none⟩)),.int .u64 33554432] w fun e w' =>
      ∃ p hv,e = .returned (.tuple #[.pointer (some ⟨p,0,none⟩),.nilIface]) ∧ w.heap.size ≤ p ∧ Blk w' p [hv,.int .u64 1] 182 (0,0) ∧ Rdr w' r sb xs (i + (headerB l).length) ∧ Fr [r] w w':=by
  have hlen:=hbB_length hl hok
  have hlt:=h.lt
  have hge:=h.ge
  have hgs:=hG.size
  have hrd:=ldRead (n:=(hbB l).length) (rest:=hbB l ++ rest) h (by rw [hx];simp [headerB]) 33554432 (by omega) (by omega) false (by omega) (by simp)
  rw [List.take_left,show i + (Lib.uvarint (hbB l).length).length + (hbB l).length = i + (headerB l).length by simp [headerB];omega] at hrd
  have hdec:=fun (w' : World) (b hb : Nat) (hv : Value) (hB : Blk w' b (by8 (hbB l)) 5 (0,0)) (hH : Blk w' hb [hv,.int .u64 (0 : Nat)] 182 (0,0)) hne (hG : Gl ea w') hg=>zzDecodeHeader (v:=.slice (some ⟨b,0,none⟩) (hbB l).length (hbB l).length) (Sl.mk (Blk.bs (pre:=[]) (post:=[]) hB (by simp) rfl) (Nat.le_refl _) (by omega) rfl) hH hne hG hg hl hok
  clear hx
  generalize (hbB l).length = N at *
  generalize (headerB l).length = M at *
  generalize hbB l = X at *
  go_enter Tryz.func88,Tryz.ntmps88
  go_wp2_with (first
    | go_at_call 121;refine hrd.mono ?_;rintro e w1 ⟨b,rfl,hb1,hR1,hB1,hF1⟩;have hG1:=hG.fr hF1 (by simp;omega);have hbl:=hB1.lt;have hsz1:=hF1.size;have hrl1:=hR1.lt
    | go_at_call 122;refine (hdec _ b w1.heap.size _ hB1.alloc (Blk.new (cs:=[_,_])) (by omega) (hG1.fr (S:=[]) (by exact frP) (by simp)) (by omega)).mono ?_;rintro e w2 ⟨hv,rfl,hH2,hF2⟩)
  go_ret2
  exact ⟨w1.heap.size,hv,rfl,hF1.size,hH2,hR1.fr (S:=[]) (Fr.trans (S:=[]) (S':=[w1.heap.size]) (by exact frP) hF2 (by simp)) (by simp) (by simp),hF1.trans (Fr.trans (S:=[]) (S':=[w1.heap.size]) (by exact frP) hF2 (by simp)) (by simp)⟩
end Go.Proofs.Wx

namespace Go.Proofs.Wx
open Go Go.RowKit
theorem uvarintS {w : World} {n : Nat} {xs rest : List UInt8} (hn : n < 9223372036854775808) (hx : xs = Lib.uvarint n ++ rest) :
    Calls Tryz.prog 127 #[.string ⟨xs.toArray⟩] w fun e w'=>e = .returned (.tuple #[.int .u64 n,.int .i64 (Lib.uvarint n).length,.nilIface]) ∧ w = w':=by
  have hx' : xs.drop 0 = Lib.uvarint n ++ rest:=by simpa using hx
  clear hx
  go_enter Tryz.func127,Tryz.ntmps127
  go_wp2_with fail
  go_loop [5,6,7] (fun x s i=>fuRel xs n rest x s i) (fun _ s _=>100 - (intOf s).toNat)
  case atStart=>exact ⟨0,0,n,by omega,rfl,rfl,rfl,UvAt.start n,.inl rfl,hx',by simp⟩
  case round =>
    clear hx'
    obtain ⟨k,q,m,hk,rfl,rfl,rfl,hu,hm0,hxk,hl⟩:=hrel
    obtain ⟨hlt,hb⟩:=uv_bound hxk
    have hu1:=hu.last hn
    have hu2:=hu.next hn
    have hst:=hu.step
    have hsm:=hu.small hn
    have hget : ∀ h : k < (⟨xs.toArray⟩ : ByteArray).size,((⟨xs.toArray⟩ : ByteArray)[k]'h) = xs[k]:=fun h=>rfl
    by_cases hm : m < 128
    · rw [if_pos hm] at hb
      obtain ⟨hb1,hb2,hb3⟩:=hb
      have hgt : ∀ h : k < (⟨xs.toArray⟩ : ByteArray).size,((⟨xs.toArray⟩ : ByteArray)[k]'h).toNat = m:=fun h=>by rw [hget];exact hb1
      have Hl:=Lib.hid (show k + 1 = (Lib.uvarint n).length by omega)
      have Hu:=Lib.hid hu1
      clear hxk hl hb1 hb2 hb3 hu1 hu2 hst hu hsm hget
      have h56' : (k : Int) ≤ 8:=by omega
      have hklt : (k : Int) < xs.length:=by omega
      go_wp2
      all_goals
        go_ret3
        refine ⟨?_,rfl⟩
        rw [← Hl.out]
        first
          | (simp [Hu.out];done)
          | (have h0 : m = 0:=by assumption
             have h2:=Hu.out
             simp [h0,show IntKind.u64.wrap 0 = 0 by rfl] at h2
             simp [h2];done)
          | (have h2:=Hu.out
             rw [IntWalk.u64_in _ (by omega)] at h2
             simpa using h2)
    · rw [if_neg hm] at hb
      obtain ⟨hb1,hb2,hb3⟩:=hb
      have hgt : ∀ h : k < (⟨xs.toArray⟩ : ByteArray).size,((⟨xs.toArray⟩ : ByteArray)[k]'h).toNat = m % 128 + 128:=fun h=>by rw [hget];exact hb1
      have hk7:=hsm (by omega)
      have Hl:=Lib.hid (show (Lib.uvarint n).length = k + 1 + (Lib.uvarint (m / 128)).length by omega)
      have Hx:=Lib.hid hb2
      have Hu:=Lib.hid hu2
      have Hst:=Lib.hid hst
      have hlo : m % 128 + 128 < 256:=by omega
      have hlo' : 128 ≤ m % 128 + 128:=by omega
      have Hr : Hid ((m % 128 + 128) % 128 = m % 128):=Lib.hid (by omega)
      generalize m % 128 + 128 = b at *
      have h56 : (k : Int) < 8:=by omega
      have hklt : (k : Int) < xs.length:=by omega
      clear hxk hl hb1 hb2 hb3 hu1 hu2 hst hu hsm hget
      go_wp2
      all_goals
        go_round
        case rel =>
          refine ⟨k + 1,_,m / 128,by omega,by go_num,by go_num,?_,Hst.out,.inr (by omega),Hx.out,Hl.out⟩
          rw [← Hu.out,← Hr.out,← and127 b hlo]
        case measure=>simp [intOf];omega

theorem cidVersion {w : World} {c : CidM} (hok : c.Ok) : Calls Tryz.prog 126 #[cidV c] w fun e w'=>e = .returned (.int .u64 c.v) ∧ Fr [] w w':=by
  have hle:=hok.le
  rcases hok.kind with ⟨h0,_,h1,h2⟩|⟨h0,_⟩
  · have hb:=CidM.bytes0 h0 h1 h2
    have hln : c.bytes.length = 34:=by rw [hb];simp [h2]
    have hg0 : ∀ h : 0 < (⟨c.bytes.toArray⟩ : ByteArray).size,((⟨c.bytes.toArray⟩ : ByteArray)[0]'h) = 18:=fun h=>by show c.bytes[0]'_ = 18;simp [hb]
    have hg1 : ∀ h : 1 < (⟨c.bytes.toArray⟩ : ByteArray).size,((⟨c.bytes.toArray⟩ : ByteArray)[1]'h) = 32:=fun h=>by show c.bytes[1]'_ = 32;simp [hb]
    rw [h0]
    clear hb h0 h1 h2 hok hle
    go_enter Tryz.func126,Tryz.ntmps126
    go_wp2
    all_goals (go_ret;exact ⟨rfl,by exact frP⟩)
  · have hb:=CidM.bytes1 h0
    have hg0 : ∀ h : 0 < (⟨c.bytes.toArray⟩ : ByteArray).size,((⟨c.bytes.toArray⟩ : ByteArray)[0]'h) = 1:=fun h=>by show c.bytes[0]'_ = 1;simp [hb]
    rw [h0]
    clear hb h0 hok
    go_enter Tryz.func126,Tryz.ntmps126
    go_wp2
    all_goals (go_ret;exact ⟨rfl,by exact frP⟩)

abbrev pfxV (c : CidM) : Value:=.agg #[.int .u64 c.v,.int .u64 c.codec,.int .u64 c.code,.int .i64 c.dig.length]
theorem extract_drop (xs : List UInt8) (k n : Nat) (hn : xs.length = n) : (⟨xs.toArray⟩ : ByteArray).extract k n = ⟨(xs.drop k).toArray⟩:=by
  apply ByteArray.ext
  simp [← hn]
  exact List.take_of_length_le (by simp)
theorem cidPrefix {w : World} {c : CidM} (hok : c.Ok) : Calls Tryz.prog 91 #[cidV c] w fun e w'=>e = .returned (pfxV c) ∧ Fr [] w w':=by
  have hle:=hok.le
  have hv:=fun w=>cidVersion (w:=w) hok
  have hcode:=hok.code_lt
  have hdl:=hok.len
  rcases hok.kind with ⟨h0,h1,h2,h3⟩|⟨h0,hck,_⟩
  · rw [h0] at hv
    unfold pfxV
    rw [h0,h1,h2,h3]
    clear hok hle hcode hdl h0 h1 h2 h3
    go_enter Tryz.func91,Tryz.ntmps91
    go_wp2_with (first
      | go_at_call 126;refine (hv _).mono ?_;rintro e w1 ⟨rfl,hF1⟩;have hZ:=hF1.blk (b:=w.heap.size + 1) (Blk.newAt (by simp)) (by simp);replace hF1 : Fr [] w w1:=Fr.trans (S:=[]) (by exact frP) hF1 (by simp)
      | (with_reducible refine list_store 187 (fun K hK=>?_);  refine storeRow _ _ _ rfl (w.heap.size + 1) [.int .u64 0,.int .u64 112,.int .u64 18,.int .i64 32] rfl rfl _ _ hZ (by kernel_rfl) rfl rfl (fun w2 hZ2 hF2=>?_);have hzc:=hZ2.cells))
    refine bodyPost_ret (v:=.agg #[.int .u64 0,.int .u64 112,.int .u64 18,.int .i64 32]) (by simp [results,Tryz.results91,go_sem,hzc]) rfl ⟨rfl,?_⟩
    exact hF1.trans hF2 (by simp)
  · have hb : c.bytes = Lib.uvarint 1 ++ (Lib.uvarint c.codec ++ (Lib.uvarint c.code ++ (Lib.uvarint c.dig.length ++ c.dig))):=by rw [CidM.bytes1 h0,uv1];simp [mhB]
    have hd1 : c.bytes.drop 1 = Lib.uvarint c.codec ++ (Lib.uvarint c.code ++ (Lib.uvarint c.dig.length ++ c.dig)):=by rw [hb,uv1];rfl
    have hd2 : c.bytes.drop (1 + (Lib.uvarint c.codec).length) = Lib.uvarint c.code ++ (Lib.uvarint c.dig.length ++ c.dig):=by rw [← List.drop_drop,hd1];simp
    have hd3 : c.bytes.drop (1 + (Lib.uvarint c.codec).length + (Lib.uvarint c.code).length) = Lib.uvarint c.dig.length ++ c.dig:=by rw [← List.drop_drop,hd2];simp
    have hln : c.bytes.length = 1 + (Lib.uvarint c.codec).length + (Lib.uvarint c.code).length + (Lib.uvarint c.dig.length).length + c.dig.length:=by rw [hb,uv1];simp;omega
    have U0:=fun w=>uvarintS (w:=w) (n:=1) (xs:=c.bytes) (by omega) hb
    have U1:=fun w=>uvarintS (w:=w) (n:=c.codec) (xs:=c.bytes.drop 1) (by omega) hd1
    have U2:=fun w=>uvarintS (w:=w) (n:=c.code) (xs:=c.bytes.drop (1 + (Lib.uvarint c.codec).length)) (by omega) hd2
    have U3:=fun w=>uvarintS (w:=w) (n:=c.dig.length) (xs:=c.bytes.drop (1 + (Lib.uvarint c.codec).length + (Lib.uvarint c.code).length)) (by omega) hd3
    rw [uv1] at U0
    have E0 : (⟨c.bytes.toArray⟩ : ByteArray).extract 0 c.bytes.length = ⟨c.bytes.toArray⟩:=extract_drop c.bytes 0 _ rfl
    have E1:=extract_drop c.bytes 1 _ rfl
    have E2:=extract_drop c.bytes (1 + (Lib.uvarint c.codec).length) _ rfl
    have E3:=extract_drop c.bytes (1 + (Lib.uvarint c.codec).length + (Lib.uvarint c.code).length) _ rfl
    have hk1:=Lib.uvarint_pos c.codec
    have hk2:=Lib.uvarint_pos c.code
    rw [h0] at hv
    unfold pfxV
    rw [h0]
    clear hb hd1 hd2 hd3 hok
    generalize (Lib.uvarint c.codec).length = k1 at *
    generalize (Lib.uvarint c.code).length = k2 at *
    generalize (Lib.uvarint c.dig.length).length = k3 at *
    have hle1 : (1 : Int) + k1 + k2 ≤ c.bytes.length:=by omega
    have hle2 : (1 : Int) + k1 ≤ c.bytes.length:=by omega
    have hle3 : (1 : Int) ≤ c.bytes.length:=by omega
    clear hln
    generalize List.drop 1 c.bytes = X1 at *
    generalize List.drop (1 + k1) c.bytes = X2 at *
    generalize List.drop (1 + k1 + k2) c.bytes = X3 at *
    go_enter Tryz.func91,Tryz.ntmps91
    go_wp2_with (first
      | go_at_call 126;refine (hv _).mono ?_;rintro e w1 ⟨rfl,hF1⟩;have hY:=hF1.blk (b:=w.heap.size) (Blk.alloc (Blk.newAt rfl)) (by simp);have hZ:=hF1.blk (b:=w.heap.size + 1) (Blk.newAt (by simp)) (by simp);have hyc:=hY.cells;replace hF1 : Fr [] w w1:=Fr.trans (S:=[]) (by exact frP) hF1 (by simp))
    refine (U0 _).mono ?_;rintro e w2 ⟨rfl,rfl⟩
    go_wp2_with fail
    refine (U1 _).mono ?_;rintro e w2 ⟨rfl,rfl⟩
    go_wp2_with fail
    refine (U2 _).mono ?_;rintro e w2 ⟨rfl,rfl⟩
    go_wp2_with fail
    refine (U3 _).mono ?_;rintro e w2 ⟨rfl,rfl⟩
    go_wp2_with (first
      | (with_reducible refine list_store 187 (fun K hK=>?_);  refine storeRow _ _ _ rfl (w.heap.size + 1) [.int .u64 1,.int .u64 c.codec,.int .u64 c.code,.int .i64 c.dig.length] rfl rfl _ _ hZ (by kernel_rfl) rfl rfl (fun w2 hZ2 hF2=>?_);have hzc:=hZ2.cells))
    refine bodyPost_ret (v:=.agg #[.int .u64 1,.int .u64 c.codec,.int .u64 c.code,.int .i64 c.dig.length]) (by simp [results,Tryz.results91,go_sem,hzc]) rfl ⟨rfl,?_⟩
    exact hF1.trans hF2 (by simp)
end Go.Proofs.Wx

namespace Go.Proofs.Wx
open Go Go.RowKit
theorem str_und : Tryz.prog.underlying 9 = some .string:=by kernel_rfl
theorem u8_und : Tryz.prog.underlying 5 = some (.int .u8):=by kernel_rfl
/-- []byte(s). -/
theorem strB {o : Oper} {a : Act} {K : Act → World → Prop} {Q : Exit → Act → World → Prop} {w : World} (x : Operand) (ho : o.op = .convert 9 76 x)
    (xs : List UInt8) (hx : a.eval x = .string ⟨xs.toArray⟩) (hl : xs.length ≤ 1000000000000)
    (h : ∀ w' C,xs.length ≤ C → C ≤ 9223372036854775807 → Bs w' w.heap.size 0 xs → Fr [] w w' → K (a.put o.dst (.slice (some ⟨w.heap.size,0,none⟩) xs.length C)) w') : o.wp Tryz.prog a w K Q:=by
  have hr:=run_bytes_of_string (P:=Tryz.prog) w 9 76 5 ⟨xs.toArray⟩ str_und u8_slice u8_und
  have hs : (⟨xs.toArray⟩ : ByteArray).size = xs.length:=by simp [ByteArray.size]
  have hge:=grownCap_ge w xs.length 0 5
  have hle:=grownCap_le_maxLen w xs.length 0 5 (by unfold maxLen;omega)
  rw [hs] at hr
  generalize grownCap w xs.length 0 5 = C at *
  unfold Oper.wp execOp
  simp only [ho,hx,Sem.run_bind,hr,Result.andThen_ok,Sem.run_pure]
  refine h _ C hge (by unfold maxLen at hle;omega) ?_ (Fr.alloc (Fr.drew Fr.refl))
  refine Blk.bs (pre:=[]) (post:=(bytesRow ⟨xs.toArray⟩ C).toList.drop xs.length) (cs:=(bytesRow ⟨xs.toArray⟩ C).toList) (T:=5) (fr:=((bytesRow ⟨xs.toArray⟩ C).size,(bytesRow ⟨xs.toArray⟩ C).size + 1)) ?_ ?_ rfl
  · exact Blk.conv (Blk.newAt (w:=w.drew) rfl) rfl
  · have e : (bytesRow ⟨xs.toArray⟩ C).toList = by8 xs ++ List.replicate (C - xs.length) (Value.int .u8 0):=by simp [bytesRow,by8,hs]
    rw [e,List.drop_left' (by simp [by8_length])];simp
theorem cidDefined {w : World} {c : CidM} (hok : c.Ok) : Calls Tryz.prog 304 #[cidV c] w fun e w'=>e = .returned (.bool true) ∧ Fr [] w w':=by
  have hle:=hok.le.2
  go_enter Tryz.func304,Tryz.ntmps304
  go_wp2
  go_ret
  refine ⟨?_,by exact frP⟩
  have : c.bytes.isEmpty = false:=by cases h : c.bytes <;> simp_all
  simp [this]
theorem cidBytes {w : World} {c : CidM} (hok : c.Ok) : Calls Tryz.prog 294 #[cidV c] w fun e w'=>∃ b cp,e = .returned (.slice (some ⟨b,0,none⟩) c.bytes.length cp) ∧ w.heap.size ≤ b ∧ c.bytes.length ≤ cp ∧ cp ≤ 9223372036854775807 ∧ Bs w' b 0 c.bytes ∧ Fr [] w w':=by
  have hle:=hok.le
  have hd:=fun w=>cidDefined (w:=w) hok
  go_enter Tryz.func294,Tryz.ntmps294
  go_wp2_with (first
    | go_at_call 304;refine (hd _).mono ?_;rintro e w1 ⟨rfl,hF1⟩;have hY:=hF1.blk (b:=w.heap.size) (Blk.newAt rfl) (by simp);have hyc:=hY.cells
    | (with_reducible refine list_convert (fun K hK=>?_);  refine strB _ rfl c.bytes rfl (by omega) (fun w2 C hC1 hC2 hB2 hF2=>?_)))
  go_ret
  have hs:=hF1.size
  simp at hs
  exact ⟨_,C,rfl,by omega,hC1,hC2,hB2,(Fr.trans (S:=[]) (S':=[]) (by exact frP) hF1 (by simp)).trans hF2 (by simp)⟩
theorem cidHash {w : World} {c : CidM} (hok : c.Ok) : Calls Tryz.prog 285 #[cidV c] w fun e w'=>∃ v b,e = .returned v ∧ w.heap.size ≤ b ∧ Sl w' v b (mhB c.code c.dig) ∧ Fr [] w w':=by
  have hle:=hok.le
  have hb:=fun w=>cidBytes (w:=w) hok
  have hv:=fun w=>cidVersion (w:=w) hok
  have hcode:=hok.code_lt
  rcases hok.kind with ⟨h0,h1,h2,h3⟩|⟨h0,hck,_⟩
  · have hmh : c.bytes = mhB c.code c.dig:=by unfold CidM.bytes;rw [if_pos h0]
    rw [h0] at hv
    rw [← hmh]
    clear h1 h2 h3 hmh h0 hcode
    go_enter Tryz.func285,Tryz.ntmps285
    go_wp2_with (first
      | go_at_call 294;refine (hb _).mono ?_;rintro e w1 ⟨b,cp,rfl,hb1,hc1,hc2,hB1,hF1⟩;have hY:=hF1.blk (b:=w.heap.size) (Blk.newAt rfl) (by simp);have hyc:=hY.cells
      | go_at_call 126;refine (hv _).mono ?_;rintro e w2 ⟨rfl,hF2⟩)
    go_ret
    simp at hb1
    exact ⟨_,b,rfl,by omega,Sl.mk (hB1.fr hF2 (by simp)) hc1 ⟨by omega,hc2⟩ rfl,(Fr.trans (S:=[]) (S':=[]) (by exact frP) hF1 (by simp)).trans hF2 (by simp)⟩
  · have hbb : c.bytes = Lib.uvarint 1 ++ (Lib.uvarint c.codec ++ mhB c.code c.dig):=by rw [CidM.bytes1 h0,uv1];rfl
    have hd1 : c.bytes.drop 1 = Lib.uvarint c.codec ++ mhB c.code c.dig:=by rw [hbb,uv1];rfl
    have hd2 : c.bytes.drop (1 + (Lib.uvarint c.codec).length) = mhB c.code c.dig:=by rw [← List.drop_drop,hd1];simp
    have hk1:=Lib.uvarint_pos c.codec
    have hm2:=mhB_two c.code c.dig
    have hln : c.bytes.length = 1 + (Lib.uvarint c.codec).length + (mhB c.code c.dig).length:=by rw [hbb,uv1];simp;omega
    have hA:=fun (w' : World) (b cp : Nat) (hB : Bs w' b 0 c.bytes) (h1 : c.bytes.length ≤ cp) (h2 : cp ≤ 9223372036854775807)=>fromUvarint (n:=1) (v:=.slice (some ⟨b,0,none⟩) c.bytes.length cp) (Sl.mk hB h1 ⟨by omega,h2⟩ rfl) (by omega) hbb
    have hC:=fun (w' : World) (b cp : Nat) (hB : Bs w' b 0 c.bytes) (h1 : c.bytes.length ≤ cp) (h2 : cp ≤ 9223372036854775807)=>fromUvarint (n:=c.codec) (v:=.slice (some ⟨b,1,none⟩) (c.bytes.length - 1) (cp - 1))
      (Sl.mk (by have:=hB.drop 1;rw [hd1] at this;simpa using this) (by rw [← hd1];simp;omega) (by rw [← hd1];simp;omega) (by rw [← hd1];simp)) hck rfl
    rw [uv1] at hA
    rw [h0] at hv
    have Hd2:=Lib.hid hd2
    clear hbb hd1 hd2 h0
    generalize (Lib.uvarint c.codec).length = k at *
    have hle1 : (1 : Int) + k ≤ c.bytes.length:=by omega
    have hle2 : (1 : Int) ≤ c.bytes.length:=by omega
    have HL:=Lib.hid hln
    clear hln
    go_enter Tryz.func285,Tryz.ntmps285
    go_wp2_with (first
      | go_at_call 294;refine (hb _).mono ?_;rintro e w1 ⟨b,cp,rfl,hb1,hc1,hc2,hB1,hF1⟩;have hY:=hF1.blk (b:=w.heap.size) (Blk.newAt rfl) (by simp);have hyc:=hY.cells;have hn1 : ¬ cp = 1:=(by omega);have hn2 : ¬ cp = 1 + k:=(by have:=HL.out;omega)
      | go_at_call 126;refine (hv _).mono ?_;rintro e w2 ⟨rfl,hF2⟩;have hB2:=hB1.fr hF2 (by simp))
    refine (hA _ b cp hB2 hc1 hc2).mono ?_;rintro e w3 ⟨rfl,rfl⟩
    go_wp2_with fail
    refine (hC _ b cp hB2 hc1 hc2).mono ?_;rintro e w3 ⟨rfl,rfl⟩
    go_wp2_with fail
    go_ret
    simp at hb1
    refine ⟨.slice (some ⟨b,1 + k,none⟩) (c.bytes.length - (1 + k)) (cp - (1 + k)),b,rfl,by omega,?_,(Fr.trans (S:=[]) (S':=[]) (by exact frP) hF1 (by simp)).trans hF2 (by simp)⟩
    exact Sl.mk (by have:=hB2.drop (1 + k);rw [Hd2.out] at this;simpa using this) (by rw [← Hd2.out];simp;omega) (by rw [← Hd2.out];simp;omega) (by rw [← Hd2.out];simp)
end Go.Proofs.Wx
