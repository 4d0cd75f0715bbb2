import Derived.Test.YtdokbceiganhdaaGreatDoorM13
import Derived.Test.YtdokbceiganhdaaGreatDoorM30
import Derived.Test.YtdokbceiganhdaaGreatDoorM33
set_option maxRecDepth 100000
set_option maxHeartbeats 1000000
set_option linter.unusedVariables false
set_option linter.unusedSimpArgs false
set_option linter.deprecated false
set_option linter.all false
set_option linter.unusedSectionVars false
namespace Go.Proofs.Wx
open Go Go.RowKit
abbrev tRC : TypeId:=120
def recE (x : Itm) : List Value:=[.string ⟨x.1.bytes.toArray⟩,.int .u64 (x.2 : Nat)]
theorem recC_flat (l : List Itm) : (l.map recE).flatten = recC l:=by unfold recC;rw [List.flatMap_def];rfl
structure M1 (w : World) (base M : Nat) (d1 : List Itm) (extra ks : List Nat) (rv : Nat → Value) : Prop where
  tab : Tab w base M .u64 tRC ks rv (fun c=>(ofC d1 c).map recE)
  mem : ∀ c,c ∈ ks ↔ (c ∈ d1.map fun e=>e.1.code) ∨ c ∈ extra
section
variable {w w' : World} {base M : Nat} {d1 : List Itm} {extra ks : List Nat} {rv : Nat → Value}
theorem M1.fr {S : List Nat} (h : M1 w base M d1 extra ks rv) (hf : Fr S w w') (hS : ∀ k ∈ S,k < base) : M1 w' base M d1 extra ks rv:=by
  have hM:=h.tab.baseM
  exact ⟨h.tab.fr hf (fun hm=>by have:=hS _ hm;omega) fun k hk=>.inl (hS k hk),h.mem⟩
theorem M1.start (hM : Mp w M .u64 []) (hb : base ≤ M) : M1 w base M [] [] [] rv:=⟨Tab.start hM hb,by simp⟩
theorem M1.own (h : M1 w base M d1 extra ks rv) {n : Nat} (hn : n ∈ ks) : w.ownsRow base tRC 2 (rv n) (ofC d1 n).length (recC (ofC d1 n)):=by
  have:=h.tab.row n hn
  rwa [List.length_map,recC_flat] at this
theorem ofC_none {n : Nat} (h : n ∉ d1.map fun e=>e.1.code) : ofC d1 n = []:=by
  unfold ofC
  rw [List.filter_eq_nil_iff]
  intro x hx hd
  exact h (List.mem_map.2 ⟨x,hx,by simpa using hd⟩)
theorem M1.add {n g c : Nat} (h : M1 w base M d1 [] ks rv) (hn : n ∉ ks) (hF : Fr [M] w w') (hO : w'.ownsRow base tRC 2 (.slice (some ⟨g,0,none⟩) 0 c) 0 []) (hg : w.heap.size ≤ g)
    (hM : Mp w' M .u64 ((ks.map fun n=>(n,rv n)) ++ [(n,.slice (some ⟨g,0,none⟩) 0 c)])) : M1 w' base M d1 [n] (ks ++ [n]) (upd rv n (.slice (some ⟨g,0,none⟩) 0 c)):=by
  have ht:=h.tab.add hn hF hO hg hM
  have e0 : ofC d1 n = []:=ofC_none fun hm=>hn ((h.mem n).2 (.inl hm))
  have e : upd (fun c=>(ofC d1 c).map recE) n [] = fun c=>(ofC d1 c).map recE:=by
    funext m;unfold upd;split
    · rename_i h;subst h;rw [e0];rfl
    · rfl
  rw [e] at ht
  exact ⟨ht,fun m=>by rw [List.mem_append,h.mem];simp⟩
theorem M1.set {n g' c' j : Nat} {v0 : Value} {e : Itm} (h : M1 w base M d1 extra ks rv) (hx : extra = [] ∨ extra = [n]) (he : n = e.1.code) (hn : n ∈ ks) (hF : Fr (M :: (rv n).ownBlock.toList) w w')
    (hO : w'.ownsRow base tRC 2 (.slice (some ⟨g',0,none⟩) ((ofC d1 n).length + 1) c') ((ofC d1 n).length + 1) (recC (ofC d1 n) ++ recE e)) (hg : (rv n).ownBlock = some g' ∨ w.heap.size ≤ g')
    (hM : Mp w' M .u64 ((ks.map fun n=>(n,rv n)).set j (n,.slice (some ⟨g',0,none⟩) ((ofC d1 n).length + 1) c'))) (hj : (ks.map fun n=>(n,rv n))[j]? = some (n,v0)) :
    M1 w' base M (d1 ++ [e]) [] ks (upd rv n (.slice (some ⟨g',0,none⟩) ((ofC d1 n).length + 1) c')):=by
  have ht:=h.tab.set (n:=n) (g':=g') (c':=c') (x:=recE e) (j:=j) (v0:=v0) hn hF (by rw [List.length_map,recC_flat];exact hO) hg (by rw [List.length_map];exact hM) hj
  simp only [List.length_map] at ht
  have e1 : upd (fun c=>(ofC d1 c).map recE) n ((ofC d1 n).map recE ++ [recE e]) = fun m=>(ofC (d1 ++ [e]) m).map recE:=by
    funext m
    unfold upd ofC
    rw [List.filter_append]
    split
    · rename_i h;subst h;simp [List.filter_cons,he]
    · rename_i h;simp [List.filter_cons,show ¬ e.1.code = m by omega]
  rw [e1] at ht
  refine ⟨ht,fun m=>?_⟩
  rw [h.mem,List.map_append,List.mem_append]
  rcases hx with rfl|rfl
  · have:=(h.mem n).1 hn
    simp only [List.map_cons,List.map_nil,List.mem_cons,List.not_mem_nil,or_false] at this ⊢
    constructor
    · exact fun h=>.inl h
    · rintro (h1|h1)
      · exact h1
      · rw [h1,← he];exact this
  · simp [he]
theorem M1.step {w6 w7 : World} {n g c g6 c6 : Nat} {e : Itm} (h : M1 w base M d1 extra ks rv) (hx : extra = [] ∨ extra = [n]) (he : n = e.1.code) (hn : n ∈ ks) (hrv : rv n = .slice (some ⟨g,0,none⟩) (ofC d1 n).length c)
    (hF6 : Fr [g] w w6) (hO6 : w6.ownsRow base tRC 2 (.slice (some ⟨g6,0,none⟩) ((ofC d1 n).length + 1) c6) ((ofC d1 n).length + 1) (recC (ofC d1 n) ++ recE e)) (hg6 : g6 = g ∨ w.heap.size ≤ g6) (hF7 : Fr [M] w6 w7)
    (hP : ((ks.map fun n=>(n,rv n)).lookup n = none ∧ Mp w7 M .u64 ((ks.map fun n=>(n,rv n)) ++ [(n,.slice (some ⟨g6,0,none⟩) ((ofC d1 n).length + 1) c6)])) ∨ ∃ j v0,(ks.map fun n=>(n,rv n))[j]? = some (n,v0) ∧ (ks.map fun n=>(n,rv n)).lookup n = some v0 ∧ Mp w7 M .u64 ((ks.map fun n=>(n,rv n)).set j (n,.slice (some ⟨g6,0,none⟩) ((ofC d1 n).length + 1) c6))) :
    M1 w7 base M (d1 ++ [e]) [] ks (upd rv n (.slice (some ⟨g6,0,none⟩) ((ofC d1 n).length + 1) c6)):=by
  have hown : (rv n).ownBlock = some g:=by rw [hrv];rfl
  have hgl:=h.tab.ownLt hn hown
  have hMl:=h.tab.map.lt
  have hg6M : g6 ≠ M:=by rcases hg6 with rfl|h <;> omega
  rcases hP with ⟨h0,_⟩|⟨j,v0,hj,_,hM7⟩
  · rw [look_map,if_pos hn] at h0;cases h0
  · refine h.set hx he hn (Fr.trans (S:=M :: (rv n).ownBlock.toList) (hF6.mono (by rw [hown];simp)) hF7 (by simp)) (own_fr hO6 hF7 (by intro k hk;simp at hk;subst hk;exact .inr (by simp [Value.ownBlock];exact hg6M))) ?_ hM7 hj
    rw [hown];rcases hg6 with rfl|h
    · exact .inl rfl
    · exact .inr h
end
structure J2 (w : World) (R M bmx : Nat) (L : List Itm) (ks : List Nat) (rv : Nat → Value) (rem done : List Nat) (cb bc : Nat → Nat) (ks2 : Nat → List Nat) (ib : Nat → Nat → Nat) : Prop where
  perm : ks.Perm (done ++ rem)
  it : It w R M .u64 (rem.map fun n=>(n,rv n))
  mp : Mp w bmx .u64 (done.map fun c=>(c,Value.pointer (some ⟨cb c,0,none⟩)))
  row : ∀ c ∈ rem,∃ g cp rest,rv c = .slice (some ⟨g,0,none⟩) (ofC L c).length cp ∧ M ≤ g ∧ g < R ∧ Blk w g (recC (ofC L c) ++ rest) tRC (0,0)
  code : ∀ c ∈ done,Blk w (cb c) [.map (some (bc c)),.int .u64 c] 441 (0,0) ∧ (R < cb c ∧ cb c < w.heap.size) ∧ Grp w (bc c) (Rg (R + 1) w.heap.size) (ofC L c) (ks2 c) (ib c)
section
variable {w w' : World} {R M bmx : Nat} {L : List Itm} {ks rem rem' done : List Nat} {rv : Nat → Value} {cb bc : Nat → Nat} {ks2 : Nat → List Nat} {ib : Nat → Nat → Nat}
theorem M1.j2 (h : M1 w M M L [] ks rv) (hR : R = w.heap.size) {ob : Obj} (hI : It (w.alloc ob) R M .u64 (ks.map fun n=>(n,rv n))) (hB : Mp (w.alloc ob) bmx .u64 []) : J2 (w.alloc ob) R M bmx L ks rv ks [] cb bc ks2 ib:=by
  subst hR
  refine ⟨by simp,hI,hB,fun n hn=>?_,by simp⟩
  obtain ⟨g,c,e,hg⟩:=h.tab.sl n hn
  rw [List.length_map] at e
  obtain ⟨h1,rest,hb⟩:=own_row2 (e ▸ h.own hn)
  exact ⟨g,c,rest,e,h1,hb.lt,hb.alloc⟩
/-- A round: one code's rows have been loaded. -/
theorem J2.step {c b0 m0 : Nat} {k0 : List Nat} {i0 : Nat → Nat} (h : J2 w R M bmx L ks rv rem done cb bc ks2 ib) (hnd : ks.Nodup) (hbm : bmx < M) (hbR : M ≤ R) (hRl : R < w.heap.size) (hp : rem.Perm (c :: rem')) (hI : It w' R M .u64 (rem'.map fun n=>(n,rv n)))
    (hF : Fr [R,bmx] w w') (hMp : Mp w' bmx .u64 ((done.map fun c=>(c,Value.pointer (some ⟨cb c,0,none⟩))) ++ [(c,Value.pointer (some ⟨b0,0,none⟩))])) (hC : Blk w' b0 [.map (some m0),.int .u64 c] 441 (0,0)) (hb0 : R < b0)
    (hG : Grp w' m0 (Rg (R + 1) w'.heap.size) (ofC L c) k0 i0) : J2 w' R M bmx L ks rv rem' (done ++ [c]) (upd cb c b0) (upd bc c m0) (upd ks2 c k0) (upd ib c i0):=by
  have hall : ks.Perm (done ++ c :: rem'):=h.perm.trans (List.Perm.append_left _ hp)
  have hnd2:=hall.nodup_iff.1 hnd
  rw [List.nodup_append] at hnd2
  obtain ⟨hd1,hd2,hd3⟩:=hnd2
  have hndone : ∀ m ∈ done,m ≠ c:=fun m hm=>hd3 m hm c (by simp)
  refine ⟨by simpa using hall,hI,?_,fun m hm=>?_,fun m hm=>?_⟩
  · refine (congrArg (Mp w' bmx .u64) ?_).mp hMp
    rw [List.map_append,List.map_singleton,upd_same]
    congr 1
    exact List.map_congr_left fun m hm=>by rw [upd_ne (hndone m hm)]
  · obtain ⟨g,cp,rest,e1,e2,e3,e4⟩:=h.row m (hp.mem_iff.2 (by simp [hm]))
    exact ⟨g,cp,rest,e1,e2,e3,hF.blk e4 (by simp;omega)⟩
  · rcases List.mem_append.1 hm with hm|hm
    · have hne:=hndone m hm
      rw [upd_ne hne,upd_ne hne,upd_ne hne,upd_ne hne]
      obtain ⟨e1,e2,e3⟩:=h.code m hm
      exact ⟨hF.blk e1 (by simp;omega),⟨e2.1,Nat.lt_of_lt_of_le e2.2 hF.size⟩,(e3.fr hF (by simp [Rg];omega)).mono (fun b hb h=>⟨h.1,hb⟩)⟩
    · simp at hm;subst hm
      rw [upd_same,upd_same,upd_same,upd_same]
      exact ⟨hC,⟨hb0,hC.lt⟩,hG⟩
theorem J2.fresh (h : J2 w R M bmx L ks rv rem done cb bc ks2 ib) (hnd : ks.Nodup) {c : Nat} (hp : rem.Perm (c :: rem')) : c ∈ ks ∧ c ∉ done:=by
  have hall : ks.Perm (done ++ c :: rem'):=h.perm.trans (List.Perm.append_left _ hp)
  have hnd:=hall.nodup_iff.1 hnd
  rw [List.nodup_append] at hnd
  exact ⟨hall.mem_iff.2 (by simp),fun hm=>hnd.2.2 c hm c (by simp) rfl⟩
theorem J2.ixs {ix : Nat} {D : Nat → Prop} {T : TypeId} (h : J2 w R M bmx L ks rv [] done cb bc ks2 ib) (hnd : ks.Nodup) (hmem : ∀ c,c ∈ ks ↔ c ∈ L.map fun e=>e.1.code) (hT : Blk w ix [.map (some bmx)] T (0,0)) (hD1 : D ix ∧ D bmx) (hD2 : ∀ b,R ≤ b → b < w.heap.size → D b) : Ixs w ix bmx D L done cb bc ks2 ib:=by
  have hp : ks.Perm done:=by simpa using h.perm
  refine ⟨⟨T,hT⟩,hD1.1,h.mp,hD1.2,hp.nodup_iff.1 hnd,fun n=>by rw [← hp.mem_iff];exact hmem n,fun c hc=>?_⟩
  obtain ⟨e1,e2,e3⟩:=h.code c hc
  exact ⟨e1,hD2 _ (by omega) e2.2,e3.mono fun b hb h=>hD2 b (by have:=h.1;omega) hb⟩
theorem look_none2 {f : Nat → Value} {n : Nat} : ∀ {ks : List Nat},n ∉ ks → (ks.map fun n=>(n,f n)).lookup n = none:=by
  intro ks h;rw [look_map,if_neg h]
end
theorem newMwc (w : World) : Calls Tryz.prog 286 #[] w fun e w'=>∃ b m,e = .returned (.pointer (some ⟨b,0,none⟩)) ∧ w.heap.size ≤ b ∧ w.heap.size ≤ m ∧ b ≠ m ∧ Blk w' b [.map (some m),.int .u64 0] 441 (0,0) ∧ Mp w' m .u32 [] ∧ Fr [] w w':=by
  have hM : Mp (w.alloc (.map #[] 0)) w.heap.size .u32 []:=Mp.new
  go_enter Tryz.func286,Tryz.ntmps286
  go_wp2
  go_ret
  refine ⟨_,w.heap.size,rfl,by simp,Nat.le_refl _,by simp,?_,hM.fr (Fr.alloc Fr.refl : Fr [] _ _) (by simp),by exact frP⟩
  exact Blk.conv (cs':=[_,_]) (by repeat (first|(with_reducible refine Blk.newAt ?_;(simp;done))|(with_reducible apply Blk.drew)|(with_reducible apply Blk.alloc))) rfl
theorem mhPut {w : World} {ix bmx cb m : Nat} {c : Nat} {T : TypeId} {Lm : List (Nat × Value)} (hT : Blk w ix [.map (some bmx)] T (0,0)) (hM : Mp w bmx .u64 Lm) (hC : Blk w cb [.map (some m),.int .u64 c] 441 (0,0)) (hn : Lm.lookup c = none) :
    Calls Tryz.prog 288 #[.pointer (some ⟨ix,0,none⟩),.pointer (some ⟨cb,0,none⟩)] w fun e w'=>e = .returned (.tuple #[]) ∧ Mp w' bmx .u64 (Lm ++ [(c,.pointer (some ⟨cb,0,none⟩))]) ∧ Fr [bmx] w w':=by
  have tc:=hT.cells
  have cc:=hC.cells
  go_enter Tryz.func288,Tryz.ntmps288
  go_wp2_with (first
    | ((with_reducible refine list_mapUpdate (fun K hK=>?_));  refine putStep _ _ _ 240 rfl (b:=bmx) (n:=c) (q:=.u64) (x:=.pointer (some ⟨cb,0,none⟩)) rfl rfl rfl (hM.fr (S:=[]) (by exact frP) (by simp)) (Kt:=26) (E:=438) (by kernel_rfl) (by kernel_rfl) (fun w8 hF8 hP8=>?_))
    | (refine wre 0 [(0,.free),(1,.free),(2,.look),(3,.free),(4,.free),(5,.free),(6,.look),(7,.free),(8,.act)] ?_)
    | (with_reducible refine wEI ?_;(first|(refine wEN ?_;skip)|(refine wEF rfl (fun K hK=>?_);go_simp)|(refine wEL rfl rfl (fun K hK=>?_);go_simp)|(refine wER rfl (fun K hK=>?_);go_simp)|(refine wEM rfl (fun K hK=>?_);go_simp;try refine ⟨_,_,⟨rfl,rfl⟩,?_⟩)|(refine wEG rfl (fun K hK=>?_);go_simp)|(refine wpE_actp rfl rfl (fun K hK=>?_);simp only [List.getElem_toArray,List.getElem_cons_succ,List.getElem_cons_zero];(first|((with_reducible refine op_mapUpdate ?_);  refine putStep _ _ _ 240 rfl (b:=bmx) (n:=c) (q:=.u64) (x:=.pointer (some ⟨cb,0,none⟩)) rfl rfl rfl (hM.fr (S:=[]) (by exact frP) (by simp)) (Kt:=26) (E:=438) (by kernel_rfl) (by kernel_rfl) (fun w8 hF8 hP8=>?_))))|(refine wEA rfl (fun K hK=>?_);go_simp))))
  go_end0
  refine ⟨rfl,?_,Fr.trans (S:=[bmx]) (by exact frP) hF8 (fun k hk _=>hk)⟩
  rcases hP8 with h|⟨j,v0,_,h,_⟩
  · exact h.2
  · rw [hn] at h;cases h
theorem rec_zero (w : World) : (zeroValue 114).run Tryz.prog w = .ok (.slice none 0 0) w:=by kernel_rfl
def m1Rel (w : World) (base M : Nat) (L : List Itm) (k : Nat) (s20 : Value) (wr : World) : Prop :=
  ∃ d1 d2 ks rv,L = d1 ++ d2 ∧ d2.length = k ∧ s20 = .int .i64 d1.length ∧ M1 wr base M d1 [] ks rv ∧ Fr [] w wr
def m2Rel (w : World) (R M bmx : Nat) (L : List Itm) (ks : List Nat) (rv : Nat → Value) (k : Nat) (wr : World) : Prop :=
  ∃ rem done cb bc ks2 ib,rem.length = k ∧ J2 wr R M bmx L ks rv rem done cb bc ks2 ib ∧ Fr [bmx] w wr
theorem Blk.cell0 {w : World} {b : Nat} {c : Value} {cs : List Value} {T : TypeId} {fr : Nat × Nat} (h : Blk w b (c :: cs) T fr) : w.cell? ⟨b,0,none⟩ = some c:=h.cell 0
set_option maxRecDepth 1000000 in
set_option maxHeartbeats 12800000 in
theorem mhLoad {w : World} {ix bmx rb cap : Nat} {ad : Option Addr} {T : TypeId} {L : List Itm} {rest : List Value} (hT : Blk w ix [.map (some bmx)] T (0,0)) (hne : ix ≠ bmx) (hB : Mp w bmx .u64 []) (hI : L = [] ∨ ad = some ⟨rb,0,none⟩ ∧ Blk w rb (recC L ++ rest) 120 (0,0))
    (hok : ∀ e ∈ L,e.1.Ok ∧ e.2 < 9223372036854775808) (hn : L.length ≤ 50) (hdis : OnceC L) (hLen : LenC) :
    Calls Tryz.prog 282 #[.pointer (some ⟨ix,0,none⟩),.slice ad L.length cap] w fun e w'=>e = .returned .nilIface ∧ ∃ cs cb bc ks ib,Ixs w' ix bmx (Nw w w' [ix,bmx]) L cs cb bc ks ib ∧ Fr [bmx] w w':=by
  have hTl:=hT.lt
  have hBl:=hB.lt
  have HN:=Lib.hid hn
  have hM0 : Mp (w.alloc (.map #[] 0)) w.heap.size .u64 []:=Mp.new
  have hF0 : Fr [] w (w.alloc (.map #[] 0)):=Fr.alloc Fr.refl
  have HI:=Lib.hid hI
  have HT:=Lib.hid (And.intro hT (And.intro hB hne))
  clear hn hI hT hB hne
  go_enter Tryz.func282,Tryz.ntmps282
  go_wp2
  generalize w.alloc (.map #[] 0) = w1 at *
  obtain ⟨M,hM⟩ : ∃ M,M = w.heap.size:=⟨_,rfl⟩
  rw [← hM] at hM0 ⊢
  have HM:=Lib.hid hM
  clear hM
  go_loopg [20] L.length (fun k s20 wr=>m1Rel w M M L k s20 wr)
  case atStart=>exact ⟨[],L,[],fun _=>undef,rfl,rfl,rfl,M1.start hM0 (Nat.le_refl _),hF0⟩
  case round =>
    obtain ⟨d1,d2,ks,rv,hL,hk,rfl,h1,hFr⟩:=hrel
    clear hM0 hF0
    cases d2 with
    | nil =>
      have hz : ¬ (d1.length : Int) < (L.length : Int):=by rw [hL];simp
      have hd1 : d1 = L:=by simpa using hL.symm
      rw [hd1] at h1
      have hBr:=HT.out.2.1.fr hFr (by simp)
      obtain ⟨ob,hrg,hIt⟩:=h1.tab.map.range (P:=Tryz.prog) (T:=435) (K:=26) (E:=114) (by kernel_rfl)
      clear hL hk hd1
      go_wp2
      have hMl:=h1.tab.map.lt
      have h2 : J2 (wr.alloc ob) wr.heap.size M bmx L ks rv ks [] (fun _=>0) (fun _=>0) (fun _=>[]) (fun _ _=>0):=h1.j2 rfl hIt (hBr.fr (Fr.alloc Fr.refl : Fr [] wr (wr.alloc ob)) (by simp))
      have hF2 : Fr [] w (wr.alloc ob):=hFr.trans (Fr.alloc Fr.refl : Fr [] wr (wr.alloc ob)) (by simp)
      have hRs : wr.heap.size < (wr.alloc ob).heap.size:=by simp
      have hR0 : w.heap.size ≤ wr.heap.size:=hFr.size
      clear hrg hIt hBr
      generalize wr.alloc ob = w2 at *
      generalize wr.heap.size = R at *
      have hbmM : bmx < M:=by have:=HM.out;omega
      have HP:=Lib.hid (And.intro hok (And.intro hdis (And.intro h1.tab.nodup (And.intro (show ∀ c,c ∈ ks ↔ c ∈ L.map fun e=>e.1.code from fun c=>by have:=h1.mem c;simpa using this) h1))))
      clear hok hdis h1 hFr
      go_loopg [] ks.length (fun k wr=>m2Rel w R M bmx L ks rv k wr)
      case atStart=>exact ⟨ks,[],_,_,_,_,rfl,h2,hF2.mono (by simp)⟩
      case round =>
        obtain ⟨rem,done,cb,bc,ks2,ib,hk,h2r,hFr⟩:=hrel
        clear h2 hF2
        have hTr:=hFr.blk HT.out.1 (by simp;exact HT.out.2.2)
        have hRr : R < wr.heap.size:=by obtain ⟨_,_,_,_,h2,_⟩:=h2r.it;exact (Array.getElem?_eq_some_iff.1 h2).1
        rcases h2r.it.next (P:=Tryz.prog) 0 (by omega) with ⟨h0,hrun⟩|⟨n,v,rem',w3,hperm,hrun,hI3,hE3,hF3⟩
        · have hr0 : rem = []:=by simpa using h0
          subst hr0
          clear hk
          go_wp2
          go_ret
          exact ⟨rfl,done,cb,bc,ks2,ib,h2r.ixs (D:=Nw w _ [ix,bmx]) HP.out.2.2.1 HP.out.2.2.2.1 hTr ⟨.inl (by simp),.inl (by simp)⟩ (fun b h1 h2=>.inr ⟨by have:=HM.out;omega,by simpa using h2⟩),hFr⟩
        · obtain ⟨hv,hre,hpm⟩:=perm_map hperm
          rw [hre] at hI3
          have hnr : n ∈ rem:=hpm.mem_iff.2 (by simp)
          obtain ⟨g,c,rest',hrv,hgM,hgR,hgB⟩:=h2r.row n hnr
          rw [hrv] at hv
          subst hv
          have her:=hE3.run (P:=Tryz.prog)
          have hT3:=hF3.blk hTr (by simp;have:=HM.out;omega)
          have hB3:=hF3.blk hgB (by simp;omega)
          obtain ⟨hnks,hnd⟩:=h2r.fresh HP.out.2.2.1 hpm
          have hbl:=h2r.mp.lt
          have hM3:=h2r.mp.fr hF3 (by simp;omega)
          have hln : (done.map fun c=>(c,Value.pointer (some ⟨cb c,0,none⟩))).lookup n = none:=look_none2 hnd
          have hn63 : n < 9223372036854775808:=by
            obtain ⟨e,he,rfl⟩:=List.mem_map.1 ((HP.out.2.2.2.1 n).1 hnks)
            exact (HP.out.1 e he).1.code_lt
          have hml:=fun (w5 : World) (b m : Nat) (h1 : Blk w5 b [.map (some m),.int .u64 n] 441 (0,0)) (h2 : b ≠ m) (h3 : Mp w5 m .u32 []) (h4 : Blk w5 g (recC (ofC L n) ++ rest') 120 (0,0)) (h5 : g ≠ m) =>
            mwLoad (mb:=b) (cap:=c) (Blk.cell0 h1) (Blk.lt h1) h2 h3 h4 h5 (fun e he=>HP.out.1 e (List.mem_filter.1 he).1) (Nat.le_trans (List.length_filter_le _ _) HN.out) (HP.out.2.1.ofC n) hLen
          have HQ:=Lib.hid (And.intro hk (And.intro hpm (And.intro hnd hre)))
          have h3s:=hF3.size
          clear hk hpm hnd hre hrv hperm hTr hgB hnr
          go_wp2_with (first
            | go_at_call 286;refine (newMwc _).mono ?_;rintro e w4 ⟨b0,m0,rfl,hb0,hm0,hbm,hC4,hM4,hF4⟩;have c4:=hC4.cells;have f4:=hC4.free;have hF5 : Fr [b0] w4 (w4.setCell ⟨b0,1,none⟩ (.int .u64 n)):=Fr.setCell (.inl (by simp)) Fr.refl;have hB5:=hF5.blk (hF4.blk hB3 (by simp)) (by simp;omega);have hM5:=hM4.fr hF5 (by simp;omega);have hT5:=hF5.blk (hF4.blk hT3 (by simp)) (by simp;omega);have hX5:=(hM3.fr hF4 (by simp)).fr hF5 (by simp;omega);have hC5 : Blk (w4.setCell ⟨b0,1,none⟩ (.int .u64 n)) b0 [.map (some m0),.int .u64 n] 441 (0,0):=hC4.set;have h4s:=hF4.size;clear her hrun hE3 hB3 hM4 hT3 hM3 hC4
            | go_at_call 287;refine (hml _ b0 m0 hC5 hbm hM5 hB5 (by omega)).mono ?_;rintro e w6 ⟨rfl,k0,i0,hG6',hF6⟩;have hG6 : Grp w6 m0 (Rg (R + 1) w6.heap.size) (ofC L n) k0 i0:=hG6'.mono (fun b hb h=>⟨by rcases h with h|h;simp at h;omega;have:=h.1;have:=hF5.size;omega,hb⟩);clear hG6';have hT6:=hF6.blk hT5 (by simp;omega);have hX6:=hX5.fr hF6 (by simp;omega);have hC6:=hF6.blk hC5 (by simp;omega);clear hml c4 f4
            | go_at_call 288;refine (mhPut (c:=n) (m:=m0) hT6 hX6 hC6 hln).mono ?_;rintro e w7 ⟨rfl,hM7,hF7⟩)
          go_roundg rem'.length
          case measure=>have:=HQ.out.1;have:=HQ.out.2.1.length_eq;simp at this;omega
          case rel =>
            obtain ⟨hk,hpm,hnd,hre⟩:=HQ.out
            have hF37 : Fr [b0,m0,bmx] w3 w7:=(((hF4.mono (by simp)).trans hF5 (by simp)).trans hF6 (by simp)).trans hF7 (by simp)
            have hFt : Fr [R,bmx] wr w7:=(hF3.mono (by simp)).trans hF37 (by intro k hk hl;simp at hk ⊢;omega)
            have hI8:=hI3.fr hF37 (by simp;omega) (by simp;omega)
            refine ⟨rem'.map (·.1),done ++ [n],_,_,_,_,by simp,h2r.step HP.out.2.2.1 hbmM (by omega) hRr hpm hI8 hFt hM7 (hF7.blk hC6 (by simp;omega)) (by omega) ((hG6.fr hF7 (by simp [Rg];omega)).mono (fun b hb h=>⟨h.1,hb⟩)),?_⟩
            refine hFr.trans hFt ?_
            intro k hk hl
            simp at hk ⊢
            omega
    | cons e d2 =>
      have hz : (d1.length : Int) < (L.length : Int):=by rw [hL];simp;omega
      have hge : L[d1.length]? = some e:=by rw [hL];simp
      have hem : e ∈ L:=List.mem_of_getElem? hge
      obtain ⟨hok1,hok2⟩:=hok e hem
      obtain ⟨hadE,hI0⟩:=HI.out.resolve_left (fun h=>by rw [h] at hem;simp at hem)
      subst hadE
      have hIr:=hFr.blk hI0 (by simp)
      have cl : d1.length * 2 + 1 < (recC L).length:=by rw [recC_length];have : d1.length < L.length:=(by omega);omega
      have c1 : wr.cell? ⟨rb,d1.length * 2,none⟩ = some (.string ⟨e.1.bytes.toArray⟩):=by rw [hIr.cell,List.getElem?_append_left (by omega)];exact (recC_get hge).1
      have c2 : wr.cell? ⟨rb,d1.length * 2 + 1,none⟩ = some (.int .u64 e.2):=by rw [hIr.cell,List.getElem?_append_left cl];exact (recC_get hge).2
      have hha:=fun w=>cidHash (w:=w) hok1
      have hcl:=hok1.code_lt
      have hdl:=hok1.len
      have HR:=Lib.hid (And.intro hL (And.intro hk (And.intro hge (And.intro hem hok1))))
      clear hk hge hem hok1 hIr hI0 cl
      have hMw : M ≤ wr.heap.size:=by have:=hFr.size;have:=HM.out;omega
      have hMl:=h1.tab.map.lt
      by_cases hn : e.1.code ∈ ks
      · obtain ⟨g,c,hrv,hgM⟩:=h1.tab.sl _ hn
        rw [List.length_map] at hrv
        have HV:=Lib.hid (And.intro hrv hn)
        have hcnt : (ofC d1 e.1.code).length ≤ 50:=Nat.le_trans (List.length_filter_le _ _) (by have:=HN.out;have:=congrArg List.length hL;simp at this;omega)
        clear hL
        go_wp2_with (first
          | go_at_call 285;refine (hha _).mono ?_;rintro ex w2 ⟨vh,bh,rfl,hbh,hSh,hF2⟩;have hT2 : Blk w2 wr.heap.size [.string ⟨e.1.bytes.toArray⟩,.int .u64 e.2] 120 (0,0):=hF2.blk (by (exact Blk.conv (by repeat (first|(with_reducible assumption)|(with_reducible apply Blk.drew)|(with_reducible apply Blk.drewN)|(with_reducible apply Blk.set)|(with_reducible apply Blk.setRow)|(with_reducible exact Blk.new)|(exact Blk.newAt rfl)|(with_reducible apply Blk.setNe (by (first|(with_reducible assumption)|(simp;omega)|(simp [*];done))))|(with_reducible apply Blk.setRowNe (by (first|(with_reducible assumption)|(simp;omega)|(simp [*];done))))|(with_reducible apply Blk.alloc))) (by first|rfl|(simp;done)|(simp;omega)))) (by simp);have hF02 : Fr [] wr w2:=Fr.trans (S:=[]) (by exact frP) hF2 (by simp);clear hF2
          | go_at_call 149;refine (mhDecodeP hSh hcl (by omega)).mono ?_;rintro ex w3 ⟨p,rfl,hp,⟨vd,hD,hSd⟩,hF3⟩;have hT3:=hF3.blk hT2 (by simp);have hF03 : Fr [] wr w3:=hF02.trans hF3 (by simp);have hsz2:=hF02.size;clear hF3 hF02 hT2 hSh;have dc3:=hD.cells;have tc3:=hT3.cells;have h3:=h1.fr hF03 (by simp);have hlk:=h3.tab.map.look (P:=Tryz.prog) (T:=435) (K:=26) (E:=114) (by kernel_rfl) (by kernel_rfl) rec_zero e.1.code true;rw [look_map] at hlk;simp only [if_pos hn,if_true,Option.getD_some,Option.isSome_some,hrv] at hlk;have hO3:=hrv ▸ h3.own hn;clear hrv hn
          | ((with_reducible refine list_bi .append (fun K hK=>?_));  refine appOwnX _ _ 114 rfl M 120 (.agg #[.string ⟨#[]⟩,.int .u64 0]) 2 24 rec_slice rec_info rfl (by omega) (.slice (some ⟨g,0,none⟩) (ofC d1 e.1.code).length c) _ _ rfl (own_fr (S:=[]) hO3 (by exact frP) (by simp)) _ 1 _ [.string ⟨e.1.bytes.toArray⟩,.int .u64 e.2] rfl (by omega) rfl (newTwo (by simp)) (by intro u hu;simp at hu;rcases hu with rfl|rfl <;> rfl) (by omega) (by omega) (by have:=hF03.size;simp;omega) (fun v6 w6 hO6 hF6 hw6 hs6=>?_);obtain ⟨g6,c6,rfl⟩:=hs6;have hF36 : Fr [g] w3 w6:=Fr.trans (S:=[g]) (by exact frP) hF6 (by simp [Value.ownBlock]);have hM6:=h3.tab.map.fr hF36 (by simp;omega);have hg6 : g6 = g ∨ w3.heap.size ≤ g6:=(by rcases hw6 with h|h <;> simp [Value.ownBlock] at h <;> omega);clear hF6 hlk hw6)
          | ((with_reducible refine list_mapUpdate (fun K hK=>?_));  refine putStep _ _ _ 435 rfl (b:=M) (n:=e.1.code) (q:=.u64) (x:=.slice (some ⟨g6,0,none⟩) ((ofC d1 e.1.code).length + 1) c6) rfl rfl rfl hM6 (Kt:=26) (E:=114) (by kernel_rfl) (by kernel_rfl) (fun w7 hF7 hP7=>?_)))
        go_roundg d2.length
        case measure=>have:=HR.out.2.1;simp at this;omega
        case rel =>
          obtain ⟨hL,hk,hge,hem,hok1⟩:=HR.out
          have hFw : Fr [] w w7:=((hFr.trans hF03 (by simp)).trans hF36 (by intro k hk hl;simp at hk;have:=HM.out;have:=(h1.tab.ownLt HV.out.2 (by rw [HV.out.1];rfl : (rv e.1.code).ownBlock = some g)).1;omega)).trans hF7 (by intro k hk hl;simp at hk;have:=HM.out;omega)
          exact ⟨d1 ++ [e],d2,_,_,by rw [hL];simp,rfl,by rw [wrap64_in (by omega) (by have:=HN.out;have:=congrArg List.length hL;simp at this;omega)];simp,h3.step (n:=e.1.code) (.inl rfl) rfl HV.out.2 HV.out.1 hF36 hO6 hg6 hF7 hP7,hFw⟩
      · have HNK:=Lib.hid hn
        clear hL
        go_wp2_with (first
          | go_at_call 285;refine (hha _).mono ?_;rintro ex w2 ⟨vh,bh,rfl,hbh,hSh,hF2⟩;have hT2 : Blk w2 wr.heap.size [.string ⟨e.1.bytes.toArray⟩,.int .u64 e.2] 120 (0,0):=hF2.blk (by (exact Blk.conv (by repeat (first|(with_reducible assumption)|(with_reducible apply Blk.drew)|(with_reducible apply Blk.drewN)|(with_reducible apply Blk.set)|(with_reducible apply Blk.setRow)|(with_reducible exact Blk.new)|(exact Blk.newAt rfl)|(with_reducible apply Blk.setNe (by (first|(with_reducible assumption)|(simp;omega)|(simp [*];done))))|(with_reducible apply Blk.setRowNe (by (first|(with_reducible assumption)|(simp;omega)|(simp [*];done))))|(with_reducible apply Blk.alloc))) (by first|rfl|(simp;done)|(simp;omega)))) (by simp);have hF02 : Fr [] wr w2:=Fr.trans (S:=[]) (by exact frP) hF2 (by simp);clear hF2
          | go_at_call 149;refine (mhDecodeP hSh hcl (by omega)).mono ?_;rintro ex w3 ⟨p,rfl,hp,⟨vd,hD,hSd⟩,hF3⟩;have hT3:=hF3.blk hT2 (by simp);have hF03 : Fr [] wr w3:=hF02.trans hF3 (by simp);have hsz2:=hF02.size;clear hF3 hF02 hT2 hSh;have dc3:=hD.cells;have tc3:=hT3.cells;have h3:=h1.fr hF03 (by simp);have hlk:=h3.tab.map.look (P:=Tryz.prog) (T:=435) (K:=26) (E:=114) (by kernel_rfl) (by kernel_rfl) rec_zero e.1.code true;rw [look_map] at hlk;simp only [if_neg hn,if_true,Option.getD_none,Option.isSome_none] at hlk;obtain ⟨G,hG⟩ : ∃ G,G = w3.heap.size:=⟨_,rfl⟩;have HG:=Lib.hid hG;clear hG hn
          | ((with_reducible refine list_makeSlice (fun K hK=>?_));  refine make0K _ _ 114 120 rfl rec_slice rec_info rfl rfl rfl G HG.out (fun w4 hg4 hO4 hF4=>?_);have hM4:=h3.tab.map.fr hF4 (by simp);clear hlk)
          | ((with_reducible refine list_mapUpdate (fun K hK=>?_));  refine putStep _ _ _ 435 rfl (b:=M) (n:=e.1.code) (q:=.u64) (x:=.slice (some ⟨G,0,none⟩) 0 0) rfl rfl rfl hM4 (Kt:=26) (E:=114) (by kernel_rfl) (by kernel_rfl) (fun w5 hF5 hP5=>?_);clear hM4;have hM5 : Mp w5 M .u64 ((ks.map fun n=>(n,rv n)) ++ [(e.1.code,.slice (some ⟨G,0,none⟩) 0 0)]):=(by rcases hP5 with h|⟨j,v0,_,h,_⟩;exact h.2;rw [look_map,if_neg HNK.out] at h;cases h);have hMG : M < G:=(by have:=HG.out;have:=h3.tab.map.lt;omega);have hF35 : Fr [M] w3 w5:=Fr.trans (S:=[M]) (hF4.mono (by simp)) hF5 (fun k hk _=>hk);have h5:=h3.add HNK.out hF35 (own_fr (hO4 M (by omega)) hF5 (by simp [Value.ownBlock];omega)) (Nat.le_of_eq HG.out.symm) hM5;clear hP5 hM5;have hTl:=hT3.lt;have tc5:=(hF35.blk hT3 (by simp;omega)).cells;clear tc3 dc3;have hO5 : w5.ownsRow M 120 2 (.slice (some ⟨G,0,none⟩) 0 0) 0 []:=own_fr (hO4 M (by omega)) hF5 (by simp [Value.ownBlock];omega))
          | ((with_reducible refine list_bi .append (fun K hK=>?_));  refine appOwnX _ _ 114 rfl M 120 (.agg #[.string ⟨#[]⟩,.int .u64 0]) 2 24 rec_slice rec_info rfl (by omega) (.slice (some ⟨G,0,none⟩) 0 0) 0 [] rfl (own_fr (S:=[]) hO5 (by exact frP) (by simp)) _ 1 _ [.string ⟨e.1.bytes.toArray⟩,.int .u64 e.2] rfl (by omega) rfl (newTwo (by simp)) (by intro u hu;simp at hu;rcases hu with rfl|rfl <;> rfl) (by omega) (by omega) (by have:=hF35.size;simp;omega) (fun v6 w6 hO6 hF6 hw6 hs6=>?_);obtain ⟨g6,c6,rfl⟩:=hs6;have hF56 : Fr [G] w5 w6:=Fr.trans (S:=[G]) (by exact frP) hF6 (by simp [Value.ownBlock]);have hM6:=h5.tab.map.fr hF56 (by simp;omega);have hg6 : g6 = G ∨ w5.heap.size ≤ g6:=(by rcases hw6 with h|h <;> simp [Value.ownBlock] at h <;> omega);clear hF6 hw6)
          | ((with_reducible refine list_mapUpdate (fun K hK=>?_));  refine putStep _ _ _ 435 rfl (b:=M) (n:=e.1.code) (q:=.u64) (x:=.slice (some ⟨g6,0,none⟩) (0 + 1) c6) rfl rfl rfl hM6 (Kt:=26) (E:=114) (by kernel_rfl) (by kernel_rfl) (fun w7 hF7 hP7=>?_)))
        go_roundg d2.length
        case measure=>have:=HR.out.2.1;simp at this;omega
        case rel =>
          obtain ⟨hL,hk,hge,hem,hok1⟩:=HR.out
          have hFw : Fr [] w w7:=(((hFr.trans hF03 (by simp)).trans hF35 (by intro k hk hl;simp at hk;have:=HM.out;omega)).trans hF56 (by intro k hk hl;simp at hk;have:=HM.out;omega)).trans hF7 (by intro k hk hl;simp at hk;have:=HM.out;omega)
          have e0 : ofC d1 e.1.code = []:=ofC_none fun hm=>HNK.out ((h1.mem _).2 (.inl hm))
          have h7:=h5.step (n:=e.1.code) (g:=G) (c:=0) (g6:=g6) (c6:=c6) (e:=e) (.inr rfl) rfl (by simp) (by simp [upd_same,e0]) hF56 (by simpa [e0,recC,recE] using hO6) hg6 hF7 (by simpa [e0] using hP7)
          exact ⟨d1 ++ [e],d2,_,_,by rw [hL];simp,rfl,by rw [wrap64_in (by omega) (by have:=HN.out;have:=congrArg List.length hL;simp at this;omega)];simp,h7,hFw⟩
end Go.Proofs.Wx

namespace Go.Proofs.Wx
open Go
theorem sum_zero {α : Type} : ∀ l : List α,(l.map fun _=>0).sum = 0
  | []=>rfl
  | _ :: l=>by rw [List.map_cons,List.sum_cons,sum_zero l]
theorem one_sum (x : Nat) : ∀ ks : List Nat,ks.Nodup → (ks.map fun k=>if x == k then 1 else 0).sum ≤ 1
  | [],_=>by simp
  | k :: ks,h=>by
    rw [List.nodup_cons] at h
    rw [List.map_cons,List.sum_cons]
    have ih:=one_sum x ks h.2
    by_cases e : x = k
    · subst e
      have z : (ks.map fun k=>if x == k then 1 else 0) = ks.map fun _=>0:=by
        refine List.map_congr_left fun y hy=>?_
        have : x ≠ y:=fun e=>h.1 (e ▸ hy)
        simp [this]
      rw [z,sum_zero];simp
    · have : (x == k) = false:=by simpa using e
      rw [this];simpa using ih
theorem sum_filter {α : Type} (f : α → Nat) (ks : List Nat) (h : ks.Nodup) : ∀ l : List α,(ks.map fun k=>(l.filter fun e=>f e == k).length).sum ≤ l.length
  | []=>by
    have z : (ks.map fun k=>((([] : List α).filter fun e=>f e == k)).length) = ks.map fun _=>0:=by simp
    rw [z,sum_zero];simp
  | e :: l=>by
    have ih:=sum_filter f ks h l
    have h1:=one_sum (f e) ks h
    have z : (ks.map fun k=>((e :: l).filter fun e=>f e == k).length).sum = (ks.map fun k=>if f e == k then 1 else 0).sum + (ks.map fun k=>(l.filter fun e=>f e == k).length).sum:=by
      clear h ih h1
      induction ks with
      | nil=>simp
      | cons k ks ihk =>
        simp only [List.map_cons,List.sum_cons]
        rw [ihk]
        have e1 : ((e :: l).filter fun e=>f e == k).length = (if f e == k then 1 else 0) + (l.filter fun e=>f e == k).length:=by
          rw [List.filter_cons];split <;> simp <;> omega
        rw [e1];omega
    rw [z,List.length_cons];omega
theorem sum_le {α : Type} {f g : α → Nat} : ∀ {l : List α},(∀ x ∈ l,f x ≤ g x) → (l.map f).sum ≤ (l.map g).sum
  | [],_=>by simp
  | x :: l,h=>by
    have h1:=h x (by simp)
    have h2:=sum_le (l:=l) fun y hy=>h y (by simp [hy])
    simp only [List.map_cons,List.sum_cons];omega
theorem sum_mul {α : Type} (c : Nat) (f : α → Nat) : ∀ l : List α,(l.map fun x=>c * f x).sum = c * (l.map f).sum
  | []=>by simp
  | x :: l=>by simp only [List.map_cons,List.sum_cons,sum_mul c f l,Nat.mul_add]
theorem asc_nodup {l : List Nat} (h : l.Pairwise (· < ·)) : l.Nodup:=h.imp fun h=>by omega
theorem groupB_len {l : List Itm} (hd : ∀ e ∈ l,e.1.dig.length ≤ 200) : (groupB l).length ≤ 4 + 220 * l.length:=by
  have h1 : ((widthsOf l).flatMap (bucketB l)).length ≤ 220 * l.length:=by
    rw [List.length_flatMap]
    refine Nat.le_trans (sum_le (g:=fun n=>220 * (ofW l n).length) fun n hn=>?_) ?_
    · obtain ⟨e0,he0,hen⟩:=List.mem_map.1 ((mem_ascOf _ _).1 hn)
      have hn2 : n ≤ 200:=hen ▸ hd e0 he0
      have hc : 1 ≤ (ofW l n).length:=List.length_pos_of_mem (List.mem_filter.2 ⟨he0,by simpa using hen⟩)
      have hr : (rowsB (sortD (ofW l n))).length = (n + 8) * (ofW l n).length:=by
        rw [rowsB_length (n:=n) fun e he=>ofW_len ((sortD_perm _).mem_iff.1 he),(sortD_perm _).length_eq]
      have h3 : (n + 8) * (ofW l n).length ≤ 208 * (ofW l n).length:=Nat.mul_le_mul (by omega) (Nat.le_refl _)
      simp only [bucketB,List.length_append,Lib.leBytes_length,hr];omega
    · rw [sum_mul]
      exact Nat.mul_le_mul (Nat.le_refl _) (sum_filter (fun e : Itm=>e.1.dig.length) _ (asc_nodup (ascOf_asc _)) l)
  simp only [groupB,List.length_append,Lib.leBytes_length];omega
theorem idxB_len {l : List Itm} (hd : ∀ e ∈ l,e.1.dig.length ≤ 200) : (idxB l).length ≤ 4 + 232 * l.length:=by
  have h1 : ((codesOf l).flatMap (codeB l)).length ≤ 232 * l.length:=by
    rw [List.length_flatMap]
    refine Nat.le_trans (sum_le (g:=fun n=>232 * (ofC l n).length) fun n hn=>?_) ?_
    · obtain ⟨e0,he0,hen⟩:=List.mem_map.1 ((mem_ascOf _ _).1 hn)
      have hc : 1 ≤ (ofC l n).length:=List.length_pos_of_mem (List.mem_filter.2 ⟨he0,by simpa using hen⟩)
      have:=groupB_len (l:=ofC l n) fun e he=>hd e (List.mem_filter.1 he).1
      simp only [codeB,List.length_append,Lib.leBytes_length];omega
    · rw [sum_mul]
      exact Nat.mul_le_mul (Nat.le_refl _) (sum_filter (fun e : Itm=>e.1.code) _ (asc_nodup (ascOf_asc _)) l)
  simp only [idxB,List.length_append,Lib.leBytes_length];omega
theorem flatMap_take {α β : Type} (f : α → List β) : ∀ (l : List α) (j : Nat),((l.take j).flatMap f).length ≤ (l.flatMap f).length
  | [],j=>by simp
  | x :: l,0=>by simp
  | x :: l,j + 1=>by have:=flatMap_take f l j;simp only [List.take_succ_cons,List.flatMap_cons,List.length_append];omega
end Go.Proofs.Wx
