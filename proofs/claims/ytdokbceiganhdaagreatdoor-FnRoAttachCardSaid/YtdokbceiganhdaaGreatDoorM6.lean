import Derived.Test.YtdokbceiganhdaaGreatDoorM1
import Derived.Test.YtdokbceiganhdaaGreatDoorM5
set_option maxRecDepth 100000
set_option maxHeartbeats 1000000
set_option linter.unusedVariables false
set_option linter.unusedSimpArgs false
set_option linter.deprecated false
set_option linter.all false
set_option linter.unusedSectionVars false
namespace Go.Proofs.Wx
open Go Go.RowKit
section
variable {ea : Addr} {w : World} {d z q r sb sk lf t : Nat} {xs rest : List UInt8} {i k : Nat} {cs : List Value} {n ph : Nat} {cl : List Value} {m : Nat} {fz str bs : Value} {ty len u tag : Nat}
abbrev tk0 (fz : Value) : List Value:=tk fz 0 0 (.string ⟨#[]⟩) (.slice none 0 0) 0 false 0
theorem acceptValue (h : Dec w d z q r sb sk lf xs i cs 0 0 cl 0) (ht : Blk w t (tk0 fz) 312 (0,0)) (ho : Off t d z q r sb sk lf) (hG : Gl ea w)
    (hx : xs.drop i = UInt8.ofNat (5 * 32 + loB k) :: (exB k ++ rest)) (hk : k < 256) :
    Calls Tryz.prog 175 #[.pointer (some ⟨d,0,none⟩),.pointer (some ⟨t,0,none⟩)] w fun e w' =>
      e = .returned (.tuple #[.bool false,.nilIface]) ∧ Dec w' d z q r sb sk lf xs (i + 1 + (exB k).length) (cs.set 0 (.int .u8 0)) 1 5 (cl.set 0 (.int .i64 k)) 1 ∧ Blk w' t (tk fz 123 k (.string ⟨#[]⟩) (.slice none 0 0) 0 false 0) 312 (0,0) ∧ Fr [d,z,q,r,sk,lf,t] w w':=by
  have ho':=ho
  obtain ⟨o1,o2,o3,o4,o5,o6,o7,o8⟩:=ho'
  have hge:=(⟨h.hs.hs.hr.ge,h.hs.ge,h.ge⟩ : _ ∧ _ ∧ _)
  obtain ⟨hi,hxi,hx1⟩:=drop_cons hx
  have hlo:=loB_le k
  have hb : xs[i].toNat = 5 * 32 + loB k:=by rw [hxi];simp;omega
  have hrd:=slkReadn1 h.hs hi hG
  rw [hb] at hrd
  have hhp:=fun (w' : World) (hs : Dec w' d z q r sb sk lf xs (i + 1) cs 0 0 cl 0) (ht) (hG : Gl ea w')=>hlpMap (fz:=fz) (ty:=0) (len:=0) (str:=.string ⟨#[]⟩) (bs:=.slice none 0 0) (u:=0) (tg:=false) (tag:=0) hs ht ho hG hx1 hk (by omega) (by omega)
  clear hx hx1 hxi hb hlo
  generalize 5 * 32 + loB k = mb at *
  have dc:=h.hd.cells
  have tc:=ht.cells
  have tf:=ht.free
  go_enter Tryz.func175,Tryz.ntmps175
  go_wp2_with (first
    | go_at_call 415;refine hrd.mono ?_;rintro e w1 ⟨rfl,hR1,hF1⟩;have hD1:=h.read hR1 hF1;have hT1:=hF1.blk ht (by simp [o2,o3,o4]);have hG1:=hG.fr hF1 (by simp;omega);have tc1:=hT1.cells;have tf1:=hT1.free;clear tc tf dc
    | go_at_call 194;refine (hhp _ (hD1.fr (S:=[t]) (by exact frP) (by simp [o1,o2,o3,o4,o5,o6,o7])) (by exact blkP) (hG1.fr (S:=[t]) (by exact frP) (by simp;omega))).mono ?_;rintro e w2 ⟨rfl,hD2,hT2,hF2⟩)
  go_ret2
  exact ⟨rfl,hD2,hT2,(Fr.trans (S:=[d,z,q,r,sk,lf,t]) (Fr.setCell (by simp) (hF1.mono (by simp))) hF2 (by simp))⟩
theorem acceptMapKey (h : Dec w d z q r sb sk lf xs i cs n 5 (.int .i64 (k + 1 : Nat) :: cl) 1) (ht : Blk w t (tk0 fz) 312 (0,0)) (ho : Off t d z q r sb sk lf) (hG : Gl ea w)
    (hk : k < 256) {c : Nat} (hx : xs.drop i = UInt8.ofNat (3 * 32 + loB c) :: (exB c ++ rest)) (hc : c < 32) (h0 : 0 < c) (hl : c ≤ rest.length) :
    Calls Tryz.prog 180 #[.pointer (some ⟨d,0,none⟩),.pointer (some ⟨t,0,none⟩)] w fun e w' =>
      e = .returned (.tuple #[.bool false,.nilIface]) ∧ Dec w' d z q r sb sk lf xs (i + 1 + (exB c).length + c) cs n 6 (.int .i64 k :: cl) 1 ∧ Blk w' t (tk fz 115 0 (.string ⟨(rest.take c).toArray⟩) (.slice none 0 0) 0 false 0) 312 (0,0) ∧ Fr [d,z,q,r,sk,lf,t] w w':=by
  have ho':=ho
  obtain ⟨o1,o2,o3,o4,o5,o6,o7,o8⟩:=ho'
  have hge:=(⟨h.hs.hs.hr.ge,h.hs.ge,h.ge⟩ : _ ∧ _ ∧ _)
  obtain ⟨hi,hxi,hx1⟩:=drop_cons hx
  have hlo:=loB_le c
  have hb : xs[i].toNat = 3 * 32 + loB c:=by rw [hxi];simp;omega
  have hrd:=fun (w' : World) (hs : Slk w' z q r sb xs i) (hG : Gl ea w')=>slkReadn1 hs hi hG
  rw [hb] at hrd
  have hhp:=fun (w' : World) (hs : Dec w' d z q r sb sk lf xs (i + 1) cs n 6 (.int .i64 k :: cl) 1) (ht) (hG : Gl ea w')=>hlpString (fz:=fz) (ty:=0) (len:=0) (str:=.string ⟨#[]⟩) (bs:=.slice none 0 0) (u:=0) (tg:=false) (tag:=0) hs ht ho hG hx1 hc h0 hl
  clear hx hx1 hxi hb hlo
  generalize 3 * 32 + loB c = mb at *
  generalize i + 1 + (exB c).length + c = j at *
  generalize rest.take c = X at *
  obtain ⟨hd,hs,hK,hL,lk,ll,⟨d1,d2,d3,d4,d5,d6⟩,⟨s1,s2,s3,s4,s5⟩,⟨l1,l2,l3,l4⟩,hge2⟩:=h
  have o1':=Ne.symm o1
  have d6':=Ne.symm d6
  have o7':=Ne.symm o7
  have dc:=hd.cells
  have df:=hd.free
  have tc:=ht.cells
  have tf:=ht.free
  have lc:=hL.cells
  have lfr:=hL.free
  have hk1 : ¬ ((k + 1 : Nat) : Int) = 0:=by omega
  have hk2 : ((k + 1 : Nat) : Int) ≤ 256:=by omega
  go_enter Tryz.func180,Tryz.ntmps180
  go_wp2_with (first
    | go_at_call 415;refine (hrd _ (hs.fr (S:=[lf]) (by exact frP) (by simp [Ne.symm l1]) (by simp [Ne.symm l2]) (by simp [Ne.symm l3]) (by simp [Ne.symm l4])) (hG.fr (S:=[lf]) (by exact frP) (by simp;omega))).mono ?_;rintro e w1 ⟨rfl,hR1,hF1⟩;have hd1:=hF1.blk (b:=d) (by exact blkP) (by simp [d1,d2,d3]);have hT1:=hF1.blk (b:=t) (by exact blkP) (by simp [o2,o3,o4]);have hL1:=hF1.blk (b:=lf) (Blk.conv (cs:=.int .i64 k :: cl) (Blk.set hL) (by simp)) (by simp [l1,l2,l3]);have hK1:=hF1.blk (b:=sk) (by exact blkP) (by simp [s1,s2,s3]);have hG1:=hG.fr (Fr.trans (S:=[z,q,r,lf]) (by exact frP) hF1 (by simp)) (by simp;omega);have hF1':=Fr.trans (S:=[d,z,q,r,sk,lf,t]) (w:=w) (by exact frP) hF1 (by simp);have tc1:=hT1.cells;have tf1:=hT1.free;have dc1:=hd1.cells;have df1:=hd1.free;clear tc tf dc df lc lfr
    | go_at_call 194;refine (hhp _ ⟨by exact blkP,hR1.fr (S:=[d,t]) (by exact frP) (by simp [Ne.symm d1,Ne.symm o2]) (by simp [Ne.symm d2,Ne.symm o3]) (by simp [Ne.symm d3,Ne.symm o4]) (by simp [Ne.symm d4,Ne.symm o5]),by exact blkP,by exact blkP,lk,ll,⟨d1,d2,d3,d4,d5,d6⟩,⟨s1,s2,s3,s4,s5⟩,⟨l1,l2,l3,l4⟩,hge2⟩ (by exact blkP) (hG1.fr (S:=[d,t]) (by exact frP) (by simp;omega))).mono ?_;rintro e w2 ⟨rfl,hD2,hT2,hF2⟩)
  go_ret2
  exact ⟨rfl,hD2,hT2,Fr.trans (S:=[d,z,q,r,sk,lf,t]) (by exact frP) hF2 (by simp)⟩
theorem acceptMapClose (h : Dec w d z q r sb sk lf xs i cs n 5 (.int .i64 (0 : Nat) :: cl) 1) (ht : Blk w t (tk0 fz) 312 (0,0)) (ho : Off t d z q r sb sk lf) :
    Calls Tryz.prog 180 #[.pointer (some ⟨d,0,none⟩),.pointer (some ⟨t,0,none⟩)] w fun e w' =>
      e = .returned (.tuple #[.bool true,.nilIface]) ∧ Dec w' d z q r sb sk lf xs i cs n 5 (.int .i64 (0 : Nat) :: cl) 0 ∧ Blk w' t (tk fz 125 0 (.string ⟨#[]⟩) (.slice none 0 0) 0 false 0) 312 (0,0) ∧ Fr [d,z,q,r,sk,lf,t] w w':=by
  have ho':=ho
  obtain ⟨o1,o2,o3,o4,o5,o6,o7,o8⟩:=ho'
  obtain ⟨hd,hs,hK,hL,lk,ll,⟨d1,d2,d3,d4,d5,d6⟩,⟨s1,s2,s3,s4,s5⟩,⟨l1,l2,l3,l4⟩,hge2⟩:=h
  have o1':=Ne.symm o1
  have d6':=Ne.symm d6
  have o7':=Ne.symm o7
  have dc:=hd.cells
  have df:=hd.free
  have tc:=ht.cells
  have tf:=ht.free
  have lc:=hL.cells
  go_enter Tryz.func180,Tryz.ntmps180
  go_wp2
  go_ret2
  refine ⟨rfl,⟨by exact blkP,hs.fr (S:=[d,t]) (by exact frP) (by simp [Ne.symm d1,Ne.symm o2]) (by simp [Ne.symm d2,Ne.symm o3]) (by simp [Ne.symm d3,Ne.symm o4]) (by simp [Ne.symm d4,Ne.symm o5]),by exact blkP,by exact blkP,lk,ll,⟨d1,d2,d3,d4,d5,d6⟩,⟨s1,s2,s3,s4,s5⟩,⟨l1,l2,l3,l4⟩,hge2⟩,by exact blkP,by exact frP⟩
theorem acceptArrClose {x : Value} (h : Dec w d z q r sb sk lf xs i cs n 4 (x :: .int .i64 (0 : Nat) :: cl) 2) (ht : Blk w t (tk0 fz) 312 (0,0)) (ho : Off t d z q r sb sk lf) :
    Calls Tryz.prog 179 #[.pointer (some ⟨d,0,none⟩),.pointer (some ⟨t,0,none⟩)] w fun e w' =>
      e = .returned (.tuple #[.bool true,.nilIface]) ∧ Dec w' d z q r sb sk lf xs i cs n 4 (x :: .int .i64 (0 : Nat) :: cl) 1 ∧ Blk w' t (tk fz 93 0 (.string ⟨#[]⟩) (.slice none 0 0) 0 false 0) 312 (0,0) ∧ Fr [d,z,q,r,sk,lf,t] w w':=by
  have ho':=ho
  obtain ⟨o1,o2,o3,o4,o5,o6,o7,o8⟩:=ho'
  obtain ⟨hd,hs,hK,hL,lk,ll,⟨d1,d2,d3,d4,d5,d6⟩,⟨s1,s2,s3,s4,s5⟩,⟨l1,l2,l3,l4⟩,hge2⟩:=h
  have o1':=Ne.symm o1
  have d6':=Ne.symm d6
  have o7':=Ne.symm o7
  have dc:=hd.cells
  have df:=hd.free
  have tc:=ht.cells
  have tf:=ht.free
  have lc:=hL.cells
  go_enter Tryz.func179,Tryz.ntmps179
  go_wp2
  go_ret2
  refine ⟨rfl,⟨by exact blkP,hs.fr (S:=[d,t]) (by exact frP) (by simp [Ne.symm d1,Ne.symm o2]) (by simp [Ne.symm d2,Ne.symm o3]) (by simp [Ne.symm d3,Ne.symm o4]) (by simp [Ne.symm d4,Ne.symm o5]),by exact blkP,by exact blkP,lk,ll,⟨d1,d2,d3,d4,d5,d6⟩,⟨s1,s2,s3,s4,s5⟩,⟨l1,l2,l3,l4⟩,hge2⟩,by exact blkP,by exact frP⟩
theorem acceptMapArr (h : Dec w d z q r sb sk lf xs i cs n 6 cl m) (ht : Blk w t (tk0 fz) 312 (0,0)) (ho : Off t d z q r sb sk lf) (hG : Gl ea w)
    {c : Nat} (hx : xs.drop i = UInt8.ofNat (4 * 32 + loB c) :: (exB c ++ rest)) (hc : c < 256) (hn : n < 10) (hm : m < 10) :
    Calls Tryz.prog 181 #[.pointer (some ⟨d,0,none⟩),.pointer (some ⟨t,0,none⟩)] w fun e w' =>
      e = .returned (.tuple #[.bool false,.nilIface]) ∧ Dec w' d z q r sb sk lf xs (i + 1 + (exB c).length) (cs.set n (.int .u8 5)) (n + 1) 4 (cl.set m (.int .i64 c)) (m + 1) ∧ Blk w' t (tk fz 91 c (.string ⟨#[]⟩) (.slice none 0 0) 0 false 0) 312 (0,0) ∧ Fr [d,z,q,r,sk,lf,t] w w':=by
  have ho':=ho
  obtain ⟨o1,o2,o3,o4,o5,o6,o7,o8⟩:=ho'
  have hge:=(⟨h.hs.hs.hr.ge,h.hs.ge,h.ge⟩ : _ ∧ _ ∧ _)
  obtain ⟨hi,hxi,hx1⟩:=drop_cons hx
  have hlo:=loB_le c
  have hb : xs[i].toNat = 4 * 32 + loB c:=by rw [hxi];simp;omega
  have hrd:=slkReadn1 h.hs hi hG
  rw [hb] at hrd
  have hhp:=fun (w' : World) (hs : Dec w' d z q r sb sk lf xs (i + 1) cs n 5 cl m) (ht) (hG : Gl ea w')=>hlpArr (fz:=fz) (ty:=0) (len:=0) (str:=.string ⟨#[]⟩) (bs:=.slice none 0 0) (u:=0) (tg:=false) (tag:=0) hs ht ho hG hx1 hc hn hm
  clear hx hx1 hxi hb hlo
  generalize 4 * 32 + loB c = mb at *
  generalize i + 1 + (exB c).length = j at *
  obtain ⟨hd,hs,hK,hL,lk,ll,⟨d1,d2,d3,d4,d5,d6⟩,⟨s1,s2,s3,s4,s5⟩,⟨l1,l2,l3,l4⟩,hge2⟩:=h
  have o1':=Ne.symm o1
  have d6':=Ne.symm d6
  have o7':=Ne.symm o7
  have dc:=hd.cells
  have df:=hd.free
  have tc:=ht.cells
  have tf:=ht.free
  go_enter Tryz.func181,Tryz.ntmps181
  go_wp2_with (first
    | go_at_call 415;refine hrd.mono ?_;rintro e w1 ⟨rfl,hR1,hF1⟩;have hd1:=hF1.blk hd (by simp [d1,d2,d3]);have hT1:=hF1.blk ht (by simp [o2,o3,o4]);have hL1:=hF1.blk hL (by simp [l1,l2,l3]);have hK1:=hF1.blk hK (by simp [s1,s2,s3]);have hG1:=hG.fr hF1 (by simp;omega);have hF1':=hF1.mono (S':=[d,z,q,r,sk,lf,t]) (by simp);have tc1:=hT1.cells;have tf1:=hT1.free;have dc1:=hd1.cells;have df1:=hd1.free;clear tc tf dc df
    | go_at_call 194;refine (hhp _ ⟨by exact blkP,hR1.fr (S:=[d,t]) (by exact frP) (by simp [Ne.symm d1,Ne.symm o2]) (by simp [Ne.symm d2,Ne.symm o3]) (by simp [Ne.symm d3,Ne.symm o4]) (by simp [Ne.symm d4,Ne.symm o5]),by exact blkP,by exact blkP,lk,ll,⟨d1,d2,d3,d4,d5,d6⟩,⟨s1,s2,s3,s4,s5⟩,⟨l1,l2,l3,l4⟩,hge2⟩ (by exact blkP) (hG1.fr (S:=[d,t]) (by exact frP) (by simp;omega))).mono ?_;rintro e w2 ⟨rfl,hD2,hT2,hF2⟩)
  go_ret2
  exact ⟨rfl,hD2,hT2,Fr.trans (S:=[d,z,q,r,sk,lf,t]) (by exact frP) hF2 (by simp)⟩
theorem acceptMapUint (h : Dec w d z q r sb sk lf xs i cs n 6 cl m) (ht : Blk w t (tk0 fz) 312 (0,0)) (ho : Off t d z q r sb sk lf) (hG : Gl ea w)
    {c : Nat} (hx : xs.drop i = UInt8.ofNat (0 * 32 + loB c) :: (exB c ++ rest)) (hc : c < 256)  :
    Calls Tryz.prog 181 #[.pointer (some ⟨d,0,none⟩),.pointer (some ⟨t,0,none⟩)] w fun e w' =>
      e = .returned (.tuple #[.bool false,.nilIface]) ∧ Dec w' d z q r sb sk lf xs (i + 1 + (exB c).length) cs n 5 cl m ∧ Blk w' t (tk fz 117 0 (.string ⟨#[]⟩) (.slice none 0 0) c false 0) 312 (0,0) ∧ Fr [d,z,q,r,sk,lf,t] w w':=by
  have ho':=ho
  obtain ⟨o1,o2,o3,o4,o5,o6,o7,o8⟩:=ho'
  have hge:=(⟨h.hs.hs.hr.ge,h.hs.ge,h.ge⟩ : _ ∧ _ ∧ _)
  obtain ⟨hi,hxi,hx1⟩:=drop_cons hx
  have hlo:=loB_le c
  have hb : xs[i].toNat = 0 * 32 + loB c:=by rw [hxi];simp;omega
  have hrd:=slkReadn1 h.hs hi hG
  rw [hb] at hrd
  have hhp:=fun (w' : World) (hs : Dec w' d z q r sb sk lf xs (i + 1) cs n 5 cl m) (ht) (hG : Gl ea w')=>hlpUint (fz:=fz) (ty:=0) (len:=0) (str:=.string ⟨#[]⟩) (bs:=.slice none 0 0) (u:=0) (tg:=false) (tag:=0) hs ht ho hG hx1 hc
  clear hx hx1 hxi hb hlo
  generalize 0 * 32 + loB c = mb at *
  generalize i + 1 + (exB c).length = j at *
  obtain ⟨hd,hs,hK,hL,lk,ll,⟨d1,d2,d3,d4,d5,d6⟩,⟨s1,s2,s3,s4,s5⟩,⟨l1,l2,l3,l4⟩,hge2⟩:=h
  have o1':=Ne.symm o1
  have d6':=Ne.symm d6
  have o7':=Ne.symm o7
  have dc:=hd.cells
  have df:=hd.free
  have tc:=ht.cells
  have tf:=ht.free
  go_enter Tryz.func181,Tryz.ntmps181
  go_wp2_with (first
    | go_at_call 415;refine hrd.mono ?_;rintro e w1 ⟨rfl,hR1,hF1⟩;have hd1:=hF1.blk hd (by simp [d1,d2,d3]);have hT1:=hF1.blk ht (by simp [o2,o3,o4]);have hL1:=hF1.blk hL (by simp [l1,l2,l3]);have hK1:=hF1.blk hK (by simp [s1,s2,s3]);have hG1:=hG.fr hF1 (by simp;omega);have hF1':=hF1.mono (S':=[d,z,q,r,sk,lf,t]) (by simp);have tc1:=hT1.cells;have tf1:=hT1.free;have dc1:=hd1.cells;have df1:=hd1.free;clear tc tf dc df
    | go_at_call 194;refine (hhp _ ⟨by exact blkP,hR1.fr (S:=[d,t]) (by exact frP) (by simp [Ne.symm d1,Ne.symm o2]) (by simp [Ne.symm d2,Ne.symm o3]) (by simp [Ne.symm d3,Ne.symm o4]) (by simp [Ne.symm d4,Ne.symm o5]),by exact blkP,by exact blkP,lk,ll,⟨d1,d2,d3,d4,d5,d6⟩,⟨s1,s2,s3,s4,s5⟩,⟨l1,l2,l3,l4⟩,hge2⟩ (by exact blkP) (hG1.fr (S:=[d,t]) (by exact frP) (by simp;omega))).mono ?_;rintro e w2 ⟨rfl,hD2,hT2,hF2⟩)
  go_ret2
  exact ⟨rfl,hD2,hT2,Fr.trans (S:=[d,z,q,r,sk,lf,t]) (by exact frP) hF2 (by simp)⟩
theorem acceptArrBytes {x : Value} (h : Dec w d z q r sb sk lf xs i cs n 4 (x :: .int .i64 (k + 1 : Nat) :: cl) 2) (ht : Blk w t (tk0 fz) 312 (0,0)) (ho : Off t d z q r sb sk lf) (hG : Gl ea w)
    (hk : k < 256) {c : Nat} (hx : xs.drop i = 216 :: 42 :: UInt8.ofNat (2 * 32 + loB c) :: (exB c ++ rest)) (hc : c < 256) (h0 : 0 < c) (hl : c ≤ rest.length) :
    Calls Tryz.prog 179 #[.pointer (some ⟨d,0,none⟩),.pointer (some ⟨t,0,none⟩)] w fun e w' =>
      ∃ v b,e = .returned (.tuple #[.bool false,.nilIface]) ∧ Dec w' d z q r sb sk lf xs (i + 3 + (exB c).length + c) cs n 4 (x :: .int .i64 k :: cl) 2 ∧ w.heap.size ≤ b ∧ Sl w' v b (rest.take c) ∧ Blk w' t (tk fz 120 0 (.string ⟨#[]⟩) v 0 true 42) 312 (0,0) ∧ Fr [d,z,q,r,sk,lf,t] w w':=by
  have ho':=ho
  obtain ⟨o1,o2,o3,o4,o5,o6,o7,o8⟩:=ho'
  have hge:=(⟨h.hs.hs.hr.ge,h.hs.ge,h.ge⟩ : _ ∧ _ ∧ _)
  obtain ⟨hi,hxi,hx1⟩:=drop_cons hx
  have hb : xs[i].toNat = 216:=by rw [hxi];rfl
  have hrd:=fun (w' : World) (hs : Slk w' z q r sb xs i) (hG : Gl ea w')=>slkReadn1 hs hi hG
  rw [hb] at hrd
  have hhp:=fun (w' : World) (hs : Dec w' d z q r sb sk lf xs (i + 1) cs n 4 (x :: .int .i64 k :: cl) 2) (ht) (hG : Gl ea w')=>hlpTag (fz:=fz) (ty:=0) (len:=0) (str:=.string ⟨#[]⟩) (bs:=.slice none 0 0) (u:=0) (tag:=0) hs ht ho hG hx1 hc h0 hl
  clear hx hx1 hxi hb
  rw [show i + 3 + (exB c).length + c = i + 1 + 2 + (exB c).length + c by omega]
  generalize i + 1 + 2 + (exB c).length + c = j at *
  generalize rest.take c = X at *
  obtain ⟨hd,hs,hK,hL,lk,ll,⟨d1,d2,d3,d4,d5,d6⟩,⟨s1,s2,s3,s4,s5⟩,⟨l1,l2,l3,l4⟩,hge2⟩:=h
  have o1':=Ne.symm o1
  have d6':=Ne.symm d6
  have o7':=Ne.symm o7
  have dc:=hd.cells
  have df:=hd.free
  have tc:=ht.cells
  have tf:=ht.free
  have lc:=hL.cells
  have lfr:=hL.free
  have hk1 : ¬ ((k + 1 : Nat) : Int) = 0:=by omega
  have hk2 : ((k + 1 : Nat) : Int) ≤ 256:=by omega
  go_enter Tryz.func179,Tryz.ntmps179
  go_wp2_with (first
    | go_at_call 415;refine (hrd _ (hs.fr (S:=[lf]) (by exact frP) (by simp [Ne.symm l1]) (by simp [Ne.symm l2]) (by simp [Ne.symm l3]) (by simp [Ne.symm l4])) (hG.fr (S:=[lf]) (by exact frP) (by simp;omega))).mono ?_;rintro e w1 ⟨rfl,hR1,hF1⟩;have hd1:=hF1.blk (b:=d) (by exact blkP) (by simp [d1,d2,d3]);have hT1:=hF1.blk (b:=t) (by exact blkP) (by simp [o2,o3,o4]);have hL1:=hF1.blk (b:=lf) (Blk.conv (cs:=x :: .int .i64 k :: cl) (Blk.set hL) (by simp)) (by simp [l1,l2,l3]);have hK1:=hF1.blk (b:=sk) (by exact blkP) (by simp [s1,s2,s3]);have hG1:=hG.fr (Fr.trans (S:=[z,q,r,lf]) (by exact frP) hF1 (by simp)) (by simp;omega);have hF1':=Fr.trans (S:=[d,z,q,r,sk,lf,t]) (w:=w) (by exact frP) hF1 (by simp);have tc1:=hT1.cells;have tf1:=hT1.free;have dc1:=hd1.cells;have df1:=hd1.free;clear tc tf dc df lc lfr
    | go_at_call 194;refine (hhp _ ⟨by exact blkP,hR1.fr (S:=[t]) (by exact frP) (by simp [Ne.symm o2]) (by simp [Ne.symm o3]) (by simp [Ne.symm o4]) (by simp [Ne.symm o5]),by exact blkP,by exact blkP,lk,ll,⟨d1,d2,d3,d4,d5,d6⟩,⟨s1,s2,s3,s4,s5⟩,⟨l1,l2,l3,l4⟩,hge2⟩ (by exact blkP) (hG1.fr (S:=[t]) (by exact frP) (by simp;omega))).mono ?_;rintro e w2 ⟨v,b,rfl,hD2,hb2,hS2,hT2,hF2⟩)
  go_ret2
  have hsz:=hF1'.size
  exact ⟨v,b,rfl,hD2,by simp at hb2;omega,hS2,hT2,Fr.trans (S:=[d,z,q,r,sk,lf,t]) (by exact frP) hF2 (by simp)⟩
end
end Go.Proofs.Wx

namespace Go.Proofs.Wx
open Go Go.RowKit
section
variable {ea : Addr} {w : World} {d z q r sb sk lf t : Nat} {xs rest : List UInt8} {i k : Nat} {cs : List Value} {n ph : Nat} {cl : List Value} {m : Nat} {fz str bs : Value} {ty len u tag : Nat}
theorem step0 {R : World → Prop} {st lfv : Value} (hD : DB w d z st 0 lfv) (hc : Calls Tryz.prog 175 #[.pointer (some ⟨d,0,none⟩),.pointer (some ⟨t,0,none⟩)] w fun e w'=>e = .returned (.tuple #[.bool false,.nilIface]) ∧ R w') :
    Calls Tryz.prog 147 #[.pointer (some ⟨d,0,none⟩),.pointer (some ⟨t,0,none⟩)] w fun e w'=>e = .returned (.tuple #[.bool false,.nilIface]) ∧ R w':=by
  have dc:=hD.cells
  go_enter Tryz.func147,Tryz.ntmps147
  go_wp2_with (first
    | go_at_call 175;refine hc.mono ?_;rintro e w1 ⟨rfl,hR1⟩)
  go_ret2
  exact ⟨rfl,hR1⟩
theorem step4 {R : World → Prop} {st lfv : Value} (hD : DB w d z st 4 lfv) (hc : Calls Tryz.prog 179 #[.pointer (some ⟨d,0,none⟩),.pointer (some ⟨t,0,none⟩)] w fun e w'=>e = .returned (.tuple #[.bool false,.nilIface]) ∧ R w') :
    Calls Tryz.prog 147 #[.pointer (some ⟨d,0,none⟩),.pointer (some ⟨t,0,none⟩)] w fun e w'=>e = .returned (.tuple #[.bool false,.nilIface]) ∧ R w':=by
  have dc:=hD.cells
  go_enter Tryz.func147,Tryz.ntmps147
  go_wp2_with (first
    | go_at_call 179;refine hc.mono ?_;rintro e w1 ⟨rfl,hR1⟩)
  go_ret2
  exact ⟨rfl,hR1⟩
theorem step5 {R : World → Prop} {st lfv : Value} (hD : DB w d z st 5 lfv) (hc : Calls Tryz.prog 180 #[.pointer (some ⟨d,0,none⟩),.pointer (some ⟨t,0,none⟩)] w fun e w'=>e = .returned (.tuple #[.bool false,.nilIface]) ∧ R w') :
    Calls Tryz.prog 147 #[.pointer (some ⟨d,0,none⟩),.pointer (some ⟨t,0,none⟩)] w fun e w'=>e = .returned (.tuple #[.bool false,.nilIface]) ∧ R w':=by
  have dc:=hD.cells
  go_enter Tryz.func147,Tryz.ntmps147
  go_wp2_with (first
    | go_at_call 180;refine hc.mono ?_;rintro e w1 ⟨rfl,hR1⟩)
  go_ret2
  exact ⟨rfl,hR1⟩
theorem step6 {R : World → Prop} {st lfv : Value} (hD : DB w d z st 6 lfv) (hc : Calls Tryz.prog 181 #[.pointer (some ⟨d,0,none⟩),.pointer (some ⟨t,0,none⟩)] w fun e w'=>e = .returned (.tuple #[.bool false,.nilIface]) ∧ R w') :
    Calls Tryz.prog 147 #[.pointer (some ⟨d,0,none⟩),.pointer (some ⟨t,0,none⟩)] w fun e w'=>e = .returned (.tuple #[.bool false,.nilIface]) ∧ R w':=by
  have dc:=hD.cells
  go_enter Tryz.func147,Tryz.ntmps147
  go_wp2_with (first
    | go_at_call 181;refine hc.mono ?_;rintro e w1 ⟨rfl,hR1⟩)
  go_ret2
  exact ⟨rfl,hR1⟩
/-- An array's end: the phase below it comes back. -/
theorem stepArrClose {x : Value} {p : Nat} {y : Value} (h : Dec w d z q r sb sk lf xs i (y :: .int .u8 p :: cs) 2 4 (x :: .int .i64 (0 : Nat) :: cl) 2) (ht : Blk w t (tk0 fz) 312 (0,0)) (ho : Off t d z q r sb sk lf) :
    Calls Tryz.prog 147 #[.pointer (some ⟨d,0,none⟩),.pointer (some ⟨t,0,none⟩)] w fun e w'=>e = .returned (.tuple #[.bool false,.nilIface]) ∧
      Dec w' d z q r sb sk lf xs i (y :: .int .u8 p :: cs) 1 p (x :: .int .i64 (0 : Nat) :: cl) 1 ∧ Blk w' t (tk fz 93 0 (.string ⟨#[]⟩) (.slice none 0 0) 0 false 0) 312 (0,0) ∧ Fr [d,z,q,r,sk,lf,t] w w':=by
  have ho':=ho
  obtain ⟨o1,o2,o3,o4,o5,o6,o7,o8⟩:=ho'
  have dc:=h.hd.cells
  have hc:=acceptArrClose h ht ho
  clear h
  go_enter Tryz.func147,Tryz.ntmps147
  go_wp2_with (first
    | go_at_call 179;refine hc.mono ?_;rintro e w1 ⟨rfl,⟨hd,hs,hK,hL,lk,ll,⟨d1,d2,d3,d4,d5,d6⟩,hsn,hln,hge2⟩,hT1,hF1⟩;have dc1:=hd.cells;have df1:=hd.free;have kc1:=hK.cells;clear dc;have d5':=Ne.symm d5)
  go_ret2
  refine ⟨rfl,⟨by exact blkP,hs.fr (S:=[d]) (by exact frP) (by simp [Ne.symm d1]) (by simp [Ne.symm d2]) (by simp [Ne.symm d3]) (by simp [Ne.symm d4]),by exact blkP,by exact blkP,lk,ll,⟨d1,d2,d3,d4,d5,d6⟩,hsn,hln,hge2⟩,by exact blkP,by exact frP⟩
/-- The map's end: the decoder is done. -/
theorem stepMapClose (h : Dec w d z q r sb sk lf xs i cs 1 5 (.int .i64 (0 : Nat) :: cl) 1) (ht : Blk w t (tk0 fz) 312 (0,0)) (ho : Off t d z q r sb sk lf) :
    Calls Tryz.prog 147 #[.pointer (some ⟨d,0,none⟩),.pointer (some ⟨t,0,none⟩)] w fun e w'=>e = .returned (.tuple #[.bool true,.nilIface]) ∧
      Blk w' t (tk fz 125 0 (.string ⟨#[]⟩) (.slice none 0 0) 0 false 0) 312 (0,0) ∧ Fr [d,z,q,r,sk,lf,t] w w':=by
  have dc:=h.hd.cells
  have hc:=acceptMapClose h ht ho
  clear h
  go_enter Tryz.func147,Tryz.ntmps147
  go_wp2_with (first
    | go_at_call 180;refine hc.mono ?_;rintro e w1 ⟨rfl,hD1,hT1,hF1⟩;have dc1:=hD1.hd.cells;clear dc)
  go_ret2
  exact ⟨rfl,hT1,hF1⟩
/-- The steps as a header needs them. -/
theorem stepMapOpen (h : Dec w d z q r sb sk lf xs i cs 0 0 cl 0) (ht : Blk w t (tk0 fz) 312 (0,0)) (ho : Off t d z q r sb sk lf) (hG : Gl ea w) (hx : xs.drop i = hdB 5 k ++ rest) (hk : k < 256) :
    Calls Tryz.prog 147 #[.pointer (some ⟨d,0,none⟩),.pointer (some ⟨t,0,none⟩)] w fun e w'=>e = .returned (.tuple #[.bool false,.nilIface]) ∧
      Dec w' d z q r sb sk lf xs (i + (hdB 5 k).length) (cs.set 0 (.int .u8 0)) 1 5 (cl.set 0 (.int .i64 k)) 1 ∧ Blk w' t (tk fz 123 k (.string ⟨#[]⟩) (.slice none 0 0) 0 false 0) 312 (0,0) ∧ Fr [d,z,q,r,sk,lf,t] w w':=by
  have:=step0 h.hd (acceptValue h ht ho hG (k:=k) (rest:=rest) (by rw [hx,hdB_eq];rfl) hk)
  rwa [show i + 1 + (exB k).length = i + (hdB 5 k).length by rw [hdB_eq];simp;omega] at this
theorem stepKey (h : Dec w d z q r sb sk lf xs i cs n 5 (.int .i64 (k + 1 : Nat) :: cl) 1) (ht : Blk w t (tk0 fz) 312 (0,0)) (ho : Off t d z q r sb sk lf) (hG : Gl ea w) (hk : k < 256)
    {s : List UInt8} (hx : xs.drop i = hdB 3 s.length ++ (s ++ rest)) (hc : s.length < 32) (h0 : 0 < s.length) :
    Calls Tryz.prog 147 #[.pointer (some ⟨d,0,none⟩),.pointer (some ⟨t,0,none⟩)] w fun e w'=>e = .returned (.tuple #[.bool false,.nilIface]) ∧
      Dec w' d z q r sb sk lf xs (i + (hdB 3 s.length).length + s.length) cs n 6 (.int .i64 k :: cl) 1 ∧ Blk w' t (tk fz 115 0 (.string ⟨s.toArray⟩) (.slice none 0 0) 0 false 0) 312 (0,0) ∧ Fr [d,z,q,r,sk,lf,t] w w':=by
  have:=step5 h.hd (acceptMapKey h ht ho hG hk (c:=s.length) (rest:=s ++ rest) (by rw [hx,hdB_eq];rfl) hc h0 (by simp))
  rw [List.take_left] at this
  rwa [show i + 1 + (exB s.length).length = i + (hdB 3 s.length).length by rw [hdB_eq];simp;omega] at this
theorem stepArrOpen (h : Dec w d z q r sb sk lf xs i cs n 6 cl m) (ht : Blk w t (tk0 fz) 312 (0,0)) (ho : Off t d z q r sb sk lf) (hG : Gl ea w) (hx : xs.drop i = hdB 4 k ++ rest) (hk : k < 256) (hn : n < 10) (hm : m < 10) :
    Calls Tryz.prog 147 #[.pointer (some ⟨d,0,none⟩),.pointer (some ⟨t,0,none⟩)] w fun e w'=>e = .returned (.tuple #[.bool false,.nilIface]) ∧
      Dec w' d z q r sb sk lf xs (i + (hdB 4 k).length) (cs.set n (.int .u8 5)) (n + 1) 4 (cl.set m (.int .i64 k)) (m + 1) ∧ Blk w' t (tk fz 91 k (.string ⟨#[]⟩) (.slice none 0 0) 0 false 0) 312 (0,0) ∧ Fr [d,z,q,r,sk,lf,t] w w':=by
  have:=step6 h.hd (acceptMapArr h ht ho hG (c:=k) (rest:=rest) (by rw [hx,hdB_eq];rfl) hk hn hm)
  rwa [show i + 1 + (exB k).length = i + (hdB 4 k).length by rw [hdB_eq];simp;omega] at this
theorem stepUint (h : Dec w d z q r sb sk lf xs i cs n 6 cl m) (ht : Blk w t (tk0 fz) 312 (0,0)) (ho : Off t d z q r sb sk lf) (hG : Gl ea w) (hx : xs.drop i = hdB 0 k ++ rest) (hk : k < 256) :
    Calls Tryz.prog 147 #[.pointer (some ⟨d,0,none⟩),.pointer (some ⟨t,0,none⟩)] w fun e w'=>e = .returned (.tuple #[.bool false,.nilIface]) ∧
      Dec w' d z q r sb sk lf xs (i + (hdB 0 k).length) cs n 5 cl m ∧ Blk w' t (tk fz 117 0 (.string ⟨#[]⟩) (.slice none 0 0) k false 0) 312 (0,0) ∧ Fr [d,z,q,r,sk,lf,t] w w':=by
  have:=step6 h.hd (acceptMapUint h ht ho hG (c:=k) (rest:=rest) (by rw [hx,hdB_eq];rfl) hk)
  rwa [show i + 1 + (exB k).length = i + (hdB 0 k).length by rw [hdB_eq];simp;omega] at this
theorem stepBytes {x : Value} (h : Dec w d z q r sb sk lf xs i cs n 4 (x :: .int .i64 (k + 1 : Nat) :: cl) 2) (ht : Blk w t (tk0 fz) 312 (0,0)) (ho : Off t d z q r sb sk lf) (hG : Gl ea w)
    (hk : k < 256) {s : List UInt8} (hx : xs.drop i = hdB 6 42 ++ (hdB 2 s.length ++ (s ++ rest))) (hc : s.length < 256) (h0 : 0 < s.length) :
    Calls Tryz.prog 147 #[.pointer (some ⟨d,0,none⟩),.pointer (some ⟨t,0,none⟩)] w fun e w'=>e = .returned (.tuple #[.bool false,.nilIface]) ∧
      ∃ v b,Dec w' d z q r sb sk lf xs (i + (hdB 6 42).length + (hdB 2 s.length).length + s.length) cs n 4 (x :: .int .i64 k :: cl) 2 ∧ w.heap.size ≤ b ∧ Sl w' v b s ∧ Blk w' t (tk fz 120 0 (.string ⟨#[]⟩) v 0 true 42) 312 (0,0) ∧ Fr [d,z,q,r,sk,lf,t] w w':=by
  have:=step4 (R:=fun w'=>∃ v b,Dec w' d z q r sb sk lf xs (i + (hdB 6 42).length + (hdB 2 s.length).length + s.length) cs n 4 (x :: .int .i64 k :: cl) 2 ∧ w.heap.size ≤ b ∧ Sl w' v b s ∧ Blk w' t (tk fz 120 0 (.string ⟨#[]⟩) v 0 true 42) 312 (0,0) ∧ Fr [d,z,q,r,sk,lf,t] w w') h.hd
    ((acceptArrBytes h ht ho hG hk (c:=s.length) (rest:=s ++ rest) (by rw [hx,hdB_eq 2];rfl) hc h0 (by simp)).mono (by
      rintro e w' ⟨v,b,rfl,h1,h2,h3,h4⟩
      rw [List.take_left] at h3
      rw [show i + 3 + (exB s.length).length + s.length = i + (hdB 6 42).length + (hdB 2 s.length).length + s.length by rw [hdB_eq 2,show (hdB 6 42).length = 2 from rfl];simp;omega] at h1
      exact ⟨rfl,v,b,h1,h2,h3,h4⟩))
  exact this
end
end Go.Proofs.Wx

namespace Go
section
variable {P : Program} {B : Option Nat} {ops : Array Oper} {Q : Exit → Act → World → Prop}
/-- The orders of a region: one operation next; or one of two, of three, that act. -/
inductive ET where
  | nil
  | one (i : Nat) (c : Cls) (t : ET)
  | two (i : Nat) (c : Cls) (t : ET) (j : Nat) (d : Cls) (u : ET)
  | three (i : Nat) (c : Cls) (t : ET) (j : Nat) (d : Cls) (u : ET) (k : Nat) (e : Cls) (v : ET)
def ET.len : ET → Nat
  | .nil=>0
  | .one _ _ t=>t.len + 1
  | .two _ _ t _ _ _=>t.len + 1
  | .three _ _ t _ _ _ _ _ _=>t.len + 1
def wpET (P : Program) (B : Option Nat) (ops : Array Oper) (Q : Exit → Act → World → Prop) : ET → Act → World → Prop
  | .nil,a,w=>Q .normal a w
  | .one i c t,a,w=>eOp P B ops Q c i (wpET P B ops Q t) a w
  | .two i c t j d u,a,w=>eOp P B ops Q c i (wpET P B ops Q t) a w ∧ eOp P B ops Q d j (wpET P B ops Q u) a w
  | .three i c t j d u k e v,a,w=>eOp P B ops Q c i (wpET P B ops Q t) a w ∧ eOp P B ops Q d j (wpET P B ops Q u) a w ∧ eOp P B ops Q e k (wpET P B ops Q v) a w
def eagerT (ops : Array Oper) (cl : Nat → Cls) : ET → Array Bool → Bool
  | .nil,listed=>(Region.ready .any ops listed).isEmpty
  | .one i c t,listed =>
    decide (cl i = c) && (if c.acts then decide (Region.ready .any ops listed = [i]) else (Region.ready .any ops listed).contains i && firstB ops cl listed i) && eagerT ops cl t (listed.setIfInBounds i true)
  | .two i c t j d u,listed=>decide (Region.ready .any ops listed = [i,j]) && decide (cl i = c) && decide (cl j = d) && decide (t.len = u.len) &&
    eagerT ops cl t (listed.setIfInBounds i true) && eagerT ops cl u (listed.setIfInBounds j true)
  | .three i c t j d u k e v,listed=>decide (Region.ready .any ops listed = [i,j,k]) && decide (cl i = c) && decide (cl j = d) && decide (cl k = e) && decide (t.len = u.len) && decide (t.len = v.len) &&
    eagerT ops cl t (listed.setIfInBounds i true) && eagerT ops cl u (listed.setIfInBounds j true) && eagerT ops cl v (listed.setIfInBounds k true)
theorem eAny_of_wpET {cl : Nat → Cls} (hsel : Region.noSelect ops = true) (hQ : Keeps Q) : ∀ (l : ET) (listed : Array Bool) (a : Act) (w : World),Closed ops listed →
    eagerT ops cl l listed = true → wpET P B ops Q l a w → eAny P B ops Q cl l.len listed a w
  | .nil,listed,a,w,_,hB,h=>⟨by simpa [eagerT] using hB,h⟩
  | .one i c t,listed,a,w,hc,hB,h=>by
    simp only [eagerT,Bool.and_eq_true,decide_eq_true_eq] at hB
    obtain ⟨⟨rfl,hfst⟩,hrest⟩:=hB
    by_cases hact : (cl i).acts = true
    · rw [if_pos hact] at hfst
      have hready : Region.ready .any ops listed = [i]:=by simpa using hfst
      refine ⟨fun h0=>(by rw [hready] at h0;cases h0),fun j hj=>?_⟩
      rw [hready] at hj
      obtain rfl : j = i:=by simpa using hj
      exact eOp_mono (fun a' w' h'=>eAny_of_wpET hsel hQ t _ a' w' (hc.set (by rw [hready];simp)) hrest h') h
    · rw [if_neg hact] at hfst
      simp only [Bool.and_eq_true] at hfst
      have hr : i ∈ Region.ready .any ops listed:=by simpa using hfst.1
      have hna : (cl i).acts = false:=by simpa using hact
      cases hoi : ops[i]? with
      | none=>unfold wpET eOp at h;rw [hoi] at h;exact h.elim
      | some oi =>
        have hex : ∃ v,YAt P B ops (cl i) oi v a w ∧ wpET P B ops Q t (a.put oi.dst v) w:=by
          unfold wpET eOp at h
          rw [hoi] at h
          revert h hna
          generalize cl i = c
          intro hna h
          cases c <;> first|exact h|(simp [Cls.acts] at hna;done)
        obtain ⟨v,hy,hk⟩:=hex
        refine eAny_first hoi hsel hQ t.len listed a w hc ?_ hr hna hy (eAny_of_wpET hsel hQ t _ _ w (hc.set hr) hrest hk)
        intro j oj hj hne hun hno
        have hfb:=hfst.2
        unfold firstB at hfb
        rw [hoi] at hfb
        have h1:=List.all_eq_true.1 hfb j (List.mem_range.2 (Array.getElem?_eq_some_iff.1 hj).1)
        rw [hj] at h1
        simp only [Bool.or_eq_true,beq_iff_eq,hne,false_or,hun,hno,Bool.false_eq_true,Bool.and_eq_true] at h1
        exact h1
  | .two i c t j d u,listed,a,w,hc,hB,h=>by
    simp only [eagerT,Bool.and_eq_true,decide_eq_true_eq] at hB
    obtain ⟨⟨⟨⟨⟨hready,hi⟩,hj⟩,hl⟩,h1⟩,h2⟩:=hB
    refine ⟨fun h0=>(by rw [hready] at h0;cases h0),fun x hx=>?_⟩
    have hx':=hx
    rw [hready] at hx
    simp only [List.mem_cons,List.not_mem_nil,or_false] at hx
    rcases hx with rfl|rfl
    · rw [hi];exact eOp_mono (fun a' w' h'=>eAny_of_wpET hsel hQ t _ a' w' (hc.set hx') h1 h') h.1
    · rw [hj];exact eOp_mono (fun a' w' h'=>by rw [hl];exact eAny_of_wpET hsel hQ u _ a' w' (hc.set hx') h2 h') h.2
  | .three i c t j d u k e v,listed,a,w,hc,hB,h=>by
    simp only [eagerT,Bool.and_eq_true,decide_eq_true_eq] at hB
    obtain ⟨⟨⟨⟨⟨⟨⟨⟨hready,hi⟩,hj⟩,hk⟩,hl⟩,hl2⟩,h1⟩,h2⟩,h3⟩:=hB
    refine ⟨fun h0=>(by rw [hready] at h0;cases h0),fun x hx=>?_⟩
    have hx':=hx
    rw [hready] at hx
    simp only [List.mem_cons,List.not_mem_nil,or_false] at hx
    rcases hx with rfl|rfl|rfl
    · rw [hi];exact eOp_mono (fun a' w' h'=>eAny_of_wpET hsel hQ t _ a' w' (hc.set hx') h1 h') h.1
    · rw [hj];exact eOp_mono (fun a' w' h'=>by rw [hl];exact eAny_of_wpET hsel hQ u _ a' w' (hc.set hx') h2 h') h.2.1
    · rw [hk];exact eOp_mono (fun a' w' h'=>by rw [hl2];exact eAny_of_wpET hsel hQ v _ a' w' (hc.set hx') h3 h') h.2.2
theorem wp_region_treeB (B : Option Nat) {id : Nat} {a : Act} {w : World} (hm : P.follows .mixedOrders = true) (cl : Nat → Cls) (l : ET)
    (hB : (Region.noSelect ops && eagerT ops cl l (Array.replicate ops.size false) && (l.len == ops.size)) = true) [hQ : Keeps Q]
    (h : wpET P B ops Q l a w.drew) : (Code.region id ops true).wp P Q a w:=by
  simp only [Bool.and_eq_true,beq_iff_eq] at hB
  obtain ⟨⟨hsel,hE⟩,hlen⟩:=hB
  refine wp_region_any hm (wpAny_of_eAny (B:=B) (cl:=cl) _ _ _ _ ?_)
  have hsz:=hlen
  rw [← hlen]
  refine eAny_of_wpET hsel hQ l _ a _ ⟨by simp [hsz],fun j oj _ hl=>?_⟩ (by rw [hsz];exact hE) h
  rcases Nat.lt_or_ge j l.len with h'|h'
  · simp [h'] at hl
  · simp [Nat.not_lt.2 h'] at hl
theorem wp_region_tree {id : Nat} {a : Act} {w : World} (hm : P.follows .mixedOrders = true) (cl : Nat → Cls) (l : ET)
    (hB : (Region.noSelect ops && eagerT ops cl l (Array.replicate ops.size false) && (l.len == ops.size)) = true) [hQ : Keeps Q]
    (h : wpET P none ops Q l a w.drew) : (Code.region id ops true).wp P Q a w :=
  wp_region_treeB none hm cl l hB h
theorem eOp_free {K0 : Act → World → Prop} {i : Nat} {o : Oper} {a : Act} {w : World} (ho : ops[i]? = some o) (hg : o.guard = none)
    (h : ∀ K : Act → World → Prop,(∀ a w,K0 a w → K a w) → ∃ v,(∀ w2,(execOp a.eval o).run P w2 = .ok (.value v) w2) ∧ K (a.put o.dst v) w) : eOp P B ops Q .free i K0 a w:=by
  obtain ⟨v,h1,h2⟩:=h _ (fun _ _ h=>h)
  unfold eOp
  rw [ho]
  exact ⟨v,.inl ⟨by simp [Region.wanted,hg],by rw [if_pos rfl];exact h1⟩,h2⟩
theorem eOp_look {K0 : Act → World → Prop} {i : Nat} {o : Oper} {a : Act} {w : World} {t : TypeId} {x : Operand} (ho : ops[i]? = some o) (hg : o.guard = none) (hop : o.op = .load t x)
    (h : ∀ K : Act → World → Prop,(∀ a w,K0 a w → K a w) → ∃ v,(execOp a.eval o).run P w = .ok (.value v) w ∧ K (a.put o.dst v) w) : eOp P none ops Q .look i K0 a w:=by
  obtain ⟨v,h1,h2⟩:=h _ (fun _ _ h=>h)
  unfold eOp
  rw [ho]
  exact ⟨v,.inl ⟨by simp [Region.wanted,hg],by rw [if_neg (by decide),if_pos rfl];exact fun w2 he=>((loads_op _ o ⟨t,x,hop⟩).run he h1).2⟩,h2⟩
theorem eOp_act {K0 : Act → World → Prop} {i : Nat} {o : Oper} {a : Act} {w : World} (ho : ops[i]? = some o) (hg : o.guard = none)
    (h : ∀ K : Act → World → Prop,(∀ a w,K0 a w → K a w) → o.wp P a w K Q) : eOp P B ops Q .act i K0 a w:=by
  have hw : Region.wanted o (yielded ops a.tmps) = true:=by simp [Region.wanted,hg]
  unfold eOp
  rw [ho]
  simp only
  rw [if_pos hw];exact .inl (h _ (fun _ _ h=>h))
theorem wpET_id {l : ET} {a : Act} {w : World} (h : wpET P B ops Q l a w) : wpET P B ops Q l a w:=h
theorem wpET_nil {a : Act} {w : World} (h : Q .normal a w) : wpET P B ops Q .nil a w:=h
theorem wpET_free {t : ET} {i : Nat} {o : Oper} {a : Act} {w : World} (ho : ops[i]? = some o) (hg : o.guard = none)
    (h : ∀ K : Act → World → Prop,(∀ a w,wpET P B ops Q t a w → K a w) → ∃ v,(∀ w2,(execOp a.eval o).run P w2 = .ok (.value v) w2) ∧ K (a.put o.dst v) w) : wpET P B ops Q (.one i .free t) a w:=by
  unfold wpET;exact eOp_free ho hg h
theorem wpET_look {t : ET} {i : Nat} {o : Oper} {a : Act} {w : World} {T : TypeId} {x : Operand} (ho : ops[i]? = some o) (hg : o.guard = none) (hop : o.op = .load T x)
    (h : ∀ K : Act → World → Prop,(∀ a w,wpET P none ops Q t a w → K a w) → ∃ v,(execOp a.eval o).run P w = .ok (.value v) w ∧ K (a.put o.dst v) w) : wpET P none ops Q (.one i .look t) a w:=by
  unfold wpET;exact eOp_look ho hg hop h
theorem wpET_act {t : ET} {i : Nat} {o : Oper} {a : Act} {w : World} (ho : ops[i]? = some o) (hg : o.guard = none)
    (h : ∀ K : Act → World → Prop,(∀ a w,wpET P B ops Q t a w → K a w) → o.wp P a w K Q) : wpET P B ops Q (.one i .act t) a w:=by
  unfold wpET;exact eOp_act ho hg h
theorem eOp_make {K0 : Act → World → Prop} {i : Nat} {o : Oper} {a : Act} {w : World} (ho : ops[i]? = some o) (hg : o.guard = none)
    (h : ∀ K : Act → World → Prop,(∀ a w,K0 a w → K a w) → ∃ v ob,(execOp a.eval o).run P w = .ok (.value v) (w.alloc ob) ∧ K (a.put o.dst v) (w.alloc ob)) : eOp P B ops Q .make i K0 a w:=by
  have hw : Region.wanted o (yielded ops a.tmps) = true:=by simp [Region.wanted,hg]
  unfold eOp
  rw [ho]
  simp only
  rw [if_pos hw];exact h _ (fun _ _ h=>h)
theorem eOp_grow {K0 : Act → World → Prop} {i : Nat} {o : Oper} {a : Act} {w : World} (ho : ops[i]? = some o) (hg : o.guard = none)
    (h : ∀ K : Act → World → Prop,(∀ a w',World.ExtO B w w' → K0 a w' → K a w') → o.wp P a w K Q) : eOp P B ops Q .grow i K0 a w:=by
  have hw : Region.wanted o (yielded ops a.tmps) = true:=by simp [Region.wanted,hg]
  unfold eOp
  rw [ho]
  simp only
  rw [if_pos hw];exact .inl (h _ fun _ _ h1 h2=>⟨h1,h2⟩)
theorem wpET_make {t : ET} {i : Nat} {o : Oper} {a : Act} {w : World} (ho : ops[i]? = some o) (hg : o.guard = none)
    (h : ∀ K : Act → World → Prop,(∀ a w,wpET P B ops Q t a w → K a w) → ∃ v ob,(execOp a.eval o).run P w = .ok (.value v) (w.alloc ob) ∧ K (a.put o.dst v) (w.alloc ob)) : wpET P B ops Q (.one i .make t) a w:=by
  unfold wpET;exact eOp_make ho hg h
theorem wpET_grow {t : ET} {i : Nat} {o : Oper} {a : Act} {w : World} (ho : ops[i]? = some o) (hg : o.guard = none)
    (h : ∀ K : Act → World → Prop,(∀ a w',World.ExtO B w w' → wpET P B ops Q t a w' → K a w') → o.wp P a w K Q) : wpET P B ops Q (.one i .grow t) a w:=by
  unfold wpET;exact eOp_grow ho hg h
theorem wpET_two {t u : ET} {i j : Nat} {c d : Cls} {a : Act} {w : World} (h : eOp P B ops Q c i (wpET P B ops Q t) a w) (h2 : eOp P B ops Q d j (wpET P B ops Q u) a w) : wpET P B ops Q (.two i c t j d u) a w:=by
  unfold wpET;exact ⟨h,h2⟩
theorem wpET_three {t u v : ET} {i j k : Nat} {c d e : Cls} {a : Act} {w : World} (h : eOp P B ops Q c i (wpET P B ops Q t) a w) (h2 : eOp P B ops Q d j (wpET P B ops Q u) a w) (h3 : eOp P B ops Q e k (wpET P B ops Q v) a w) :
    wpET P B ops Q (.three i c t j d u k e v) a w:=by
  unfold wpET;exact ⟨h,h2,h3⟩
theorem eOp_id {K0 : Act → World → Prop} {c : Cls} {i : Nat} {a : Act} {w : World} (h : eOp P B ops Q c i K0 a w) : eOp P B ops Q c i K0 a w:=h
end
end Go
