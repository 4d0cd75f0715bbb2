import Derived.Test.YtdokbceiganhdaaGreatDoorM8
import Derived.Test.YtdokbceiganhdaaGreatDoorM10
import Derived.Test.YtdokbceiganhdaaGreatDoorM11
import Derived.Test.YtdokbceiganhdaaGreatDoorM13
import Derived.Test.YtdokbceiganhdaaGreatDoorM14
import Derived.Test.YtdokbceiganhdaaGreatDoorM33
import Derived.Test.YtdokbceiganhdaaGreatDoorM34
import Derived.Test.YtdokbceiganhdaaGreatDoorM35
import Derived.Test.YtdokbceiganhdaaGreatDoorM36
set_option maxRecDepth 100000
set_option maxHeartbeats 1000000
set_option linter.unusedVariables false
set_option linter.unusedSimpArgs false
set_option linter.deprecated false
set_option linter.all false
set_option linter.unusedSectionVars false
namespace Go
section
variable {P : Program} {ops : Array Oper} {Q : Exit → Act → World → Prop}
theorem op_alloc (T : TypeId) {ds : Option Tmp} {ty : TypeId} {po : String} {af : Array Edge} {a : Act} {w : World} {K : Act → World → Prop} (h : Oper.wp P { dst:=ds,op:=.alloc T,type:=ty,pos:=po,after:=af,guard:=none } a w K Q) : Oper.wp P { dst:=ds,op:=.alloc T,type:=ty,pos:=po,after:=af,guard:=none } a w K Q:=h
theorem list_alloc (T : TypeId) {ds : Option Tmp} {ty : TypeId} {po : String} {af : Array Edge} {rest : List Oper} {a : Act} {w : World} (h : ∀ K : Act → World → Prop,(∀ a w,wpList P ops Q rest a w → K a w) → Oper.wp P { dst:=ds,op:=.alloc T,type:=ty,pos:=po,after:=af,guard:=none } a w K Q) : wpList P ops Q ({ dst:=ds,op:=.alloc T,type:=ty,pos:=po,after:=af,guard:=none } :: rest) a w:=wpList_plain rfl h
end
end Go
namespace Go.Proofs.Wx
open Go Go.RowKit
theorem alloc512 (w : World) : (Instr.alloc 229 true (.tuple #[])).run Tryz.prog w = .ok (.pointer (some ⟨w.heap.size,0,none⟩)) (w.alloc (.cells (List.replicate 512 (Value.int .u8 0)).toArray 229 (0,0))):=by kernel_rfl
theorem alloc512K {o : Oper} {a : Act} {K : Act → World → Prop} {Q : Exit → Act → World → Prop} {w : World} (ho : o.op = .alloc 229) (T : Nat) (hT : T = w.heap.size)
    (h : ∀ w',Blk w' T (List.replicate 512 (Value.int .u8 0)) 229 (0,0) → Fr [] w w' → K (a.put o.dst (.pointer (some ⟨T,0,none⟩))) w') : o.wp Tryz.prog a w K Q:=by
  subst hT
  have hr:=alloc512 w
  unfold Oper.wp execOp
  simp only [ho,Sem.run_bind,Sem.run_pure,Result.andThen_ok,hr,Oper.upon_value]
  exact h _ Blk.new (Fr.alloc Fr.refl)
end Go.Proofs.Wx

namespace Go.Proofs.Wx
open Go Go.RowKit
theorem newMh (w : World) : Calls Tryz.prog 86 #[] w fun e w'=>∃ ix bm,e = .returned (.pointer (some ⟨ix,0,none⟩)) ∧ w.heap.size ≤ ix ∧ w.heap.size ≤ bm ∧ ix ≠ bm ∧ Blk w' ix [.map (some bm)] 240 (0,0) ∧ Mp w' bm .u64 [] ∧ Fr [] w w':=by
  have hM : Mp (w.alloc (.map #[] 0)) w.heap.size .u64 []:=Mp.new
  go_enter Tryz.func86,Tryz.ntmps86
  go_wp2
  go_ret
  refine ⟨_,w.heap.size,rfl,by simp,Nat.le_refl _,by simp,?_,hM.fr (Fr.alloc Fr.refl : Fr [] _ _) (by simp),by exact frP⟩
  exact Blk.conv (cs':=[_]) (by repeat (first|(with_reducible refine Blk.newAt ?_;(simp;done))|(with_reducible apply Blk.drew)|(with_reducible apply Blk.alloc))) rfl
theorem indexNew (w : World) : Calls Tryz.prog 50 #[.int .u64 1025] w fun e w'=>∃ ix bm,e = .returned (.tuple #[.iface 170 (.pointer (some ⟨ix,0,none⟩)),.nilIface]) ∧ w.heap.size ≤ ix ∧ w.heap.size ≤ bm ∧ ix ≠ bm ∧ Blk w' ix [.map (some bm)] 240 (0,0) ∧ Mp w' bm .u64 [] ∧ Fr [] w w':=by
  go_enter Tryz.func50,Tryz.ntmps50
  go_wp2_with (first
    | go_at_call 86;refine (newMh _).mono ?_;rintro e w1 ⟨ix,bm,rfl,h1,h2,h3,hT,hM,hF⟩)
  go_ret2
  exact ⟨ix,bm,rfl,h1,h2,h3,hT,hM,hF⟩
theorem CarM.Ok.ents {c : CarM} (h : c.Ok) : (∀ e ∈ c.ents,e.1.Ok ∧ e.2 < 9223372036854775808) ∧ c.ents.length ≤ 50:=by
  have hl:=h.length.1
  have key : ∀ (bl : List BlkM) (p : Nat),(∀ b ∈ bl,b.cid.Ok) → ∀ e ∈ entsAt p bl,e.1.Ok ∧ e.2 < p + (secsB bl).length + 1:=by
    intro bl
    induction bl with
    | nil=>intro p _ e he;simp [entsAt] at he
    | cons b bl ih =>
      intro p hb e he
      rw [entsAt,List.mem_append] at he
      have e1 : (secsB (b :: bl)).length = (secB b).length + (secsB bl).length:=by simp [secsB]
      rcases he with he|he
      · split at he
        · simp at he
        · simp at he;subst he
          exact ⟨hb b (by simp),by show p < _;omega⟩
      · obtain ⟨h1,h2⟩:=ih _ (fun x hx=>hb x (by simp [hx])) e he
        exact ⟨h1,by omega⟩
  refine ⟨fun e he=>?_,Nat.le_trans (entsAt_length _ _) h.blocks⟩
  obtain ⟨h1,h2⟩:=key _ _ h.cid e he
  refine ⟨h1,?_⟩
  have : c.bytes.length = (headerB c.roots).length + (secsB c.blocks).length:=by simp [CarM.bytes]
  omega
end Go.Proofs.Wx

namespace Go.Proofs.Wx
open Go Go.RowKit
set_option maxRecDepth 1000000 in
set_option maxHeartbeats 12800000 in
theorem mwLoad0 {w : World} {mb bm cap : Nat} {ad : Option Addr} (hm : w.cell? ⟨mb,0,none⟩ = some (.map (some bm))) (hml : mb < w.heap.size) (hB : Mp w bm .u32 []) :
    Calls Tryz.prog 287 #[.pointer (some ⟨mb,0,none⟩),.slice ad 0 cap] w fun e w'=>e = .returned .nilIface ∧ ∃ ks ib,Grp w' bm (Nw w w' [bm]) [] ks ib ∧ Fr [bm] w w':=by
  have hBl:=hB.lt
  have hM0 : Mp (w.alloc (.map #[] 0)) w.heap.size .i64 []:=Mp.new
  have hF0 : Fr [] w (w.alloc (.map #[] 0)):=Fr.alloc Fr.refl
  obtain ⟨ob,hrg,hIt⟩:=hM0.range (P:=Tryz.prog) (T:=448) (K:=3) (E:=449) (by kernel_rfl)
  go_enter Tryz.func287,Tryz.ntmps287
  go_wp2_with (first
    | (with_reducible refine wp_loop_rounds 1 ?_);rw [rounds_succ]
    | (refine wre 24 [(0,.look),(1,.free),(2,.free),(3,.free),(4,.free),(5,.free),(6,.free),(7,.free),(8,.free),(9,.free),(10,.act)] ?_)
    | (refine wre 27 [(0,.free),(1,.free),(2,.look),(3,.free),(4,.free),(5,.free),(6,.look),(7,.act)] ?_)
    | (with_reducible refine wEI ?_;(first|(refine wEN ?_;skip)|(refine wEF rfl (fun K hK=>?_);go_simp)|(refine wEL rfl rfl (fun K hK=>?_);go_simp)|(refine wER rfl (fun K hK=>?_);go_simp)|(refine wEM rfl (fun K hK=>?_);go_simp;try refine ⟨_,_,⟨rfl,rfl⟩,?_⟩)|(refine wEG rfl (fun K hK=>?_);go_simp)|(refine wEA rfl (fun K hK=>?_);go_simp))))
  have hF2 : Fr [] w ((w.alloc (.map #[] 0)).alloc ob):=hF0.trans (Fr.alloc Fr.refl : Fr [] _ _) (by simp)
  have hne : (w.alloc (.map #[] 0)).heap.size ≠ w.heap.size:=by simp
  rcases hIt.next (P:=Tryz.prog) 0 hne with ⟨h0,hrun⟩|⟨n,v,rem',w3,hperm,_⟩
  · simp only [World.size_alloc] at hrun
    generalize (w.alloc (.map #[] 0)).alloc ob = w2 at *
    go_wp2_with (first|((with_reducible refine wp_loop_rounds 1 ?_);rw [rounds_succ]))
    go_ret
    refine ⟨rfl,[],fun _=>0,⟨by simpa using hB.fr hF2 (by simp),.inl (by simp),List.nodup_nil,by simp,by simp⟩,hF2.mono (by simp)⟩
  · exact absurd hperm.length_eq (by simp)
theorem rec_slice_form {w : World} {base n : Nat} {v : Value} {xs : List Value} (h : w.ownsRow base 120 2 v n xs) : ∃ ad cap rb rest,v = .slice ad n cap ∧ (n = 0 ∨ ad = some ⟨rb,0,none⟩ ∧ base ≤ rb ∧ Blk w rb (xs ++ rest) 120 (0,0)):=by
  rcases h.2 with ⟨h1,h2⟩|⟨g,cap,cur,h1,h2,h3,_,_,_,h4⟩
  · exact ⟨none,0,0,[],by rw [h1,h2],.inl h2⟩
  · subst h1
    obtain ⟨_,rest,hb⟩:=own_row2 h
    exact ⟨_,cap,g,rest,rfl,.inr ⟨rfl,h2,hb⟩⟩
theorem loadS {w : World} {mb bm base : Nat} {v : Value} {L : List Itm} (hm : w.cell? ⟨mb,0,none⟩ = some (.map (some bm))) (hml : mb < w.heap.size) (hmb : mb ≠ bm) (hB : Mp w bm .u32 []) (hI : w.ownsRow base 120 2 v L.length (recC L)) (hb : bm < base)
    (hok : ∀ e ∈ L,e.1.Ok ∧ e.2 < 9223372036854775808) (hn : L.length ≤ 50) (hdis : Distinct L) (hLen : LenC) :
    Calls Tryz.prog 287 #[.pointer (some ⟨mb,0,none⟩),v] w fun e w'=>e = .returned .nilIface ∧ ∃ ks ib,Grp w' bm (Nw w w' [bm]) L ks ib ∧ Fr [bm] w w':=by
  obtain ⟨ad,cap,rb,rest,rfl,h⟩:=rec_slice_form hI
  rcases h with h0|⟨rfl,hrb,hR⟩
  · have : L = []:=List.eq_nil_of_length_eq_zero h0
    subst this
    exact mwLoad0 hm hml hB
  · exact mwLoad hm hml hmb hB hR (by omega) hok hn hdis hLen
theorem loadM {w : World} {ix bm base : Nat} {T : TypeId} {v : Value} {L : List Itm} (hT : Blk w ix [.map (some bm)] T (0,0)) (hne : ix ≠ bm) (hB : Mp w bm .u64 []) (hI : w.ownsRow base 120 2 v L.length (recC L))
    (hok : ∀ e ∈ L,e.1.Ok ∧ e.2 < 9223372036854775808) (hn : L.length ≤ 50) (hdis : OnceC L) (hLen : LenC) :
    Calls Tryz.prog 282 #[.pointer (some ⟨ix,0,none⟩),v] w fun e w'=>e = .returned .nilIface ∧ ∃ cs cb bc ks ib,Ixs w' ix bm (Nw w w' [ix,bm]) L cs cb bc ks ib ∧ Fr [bm] w w':=by
  obtain ⟨ad,cap,rb,rest,rfl,h⟩:=rec_slice_form hI
  refine mhLoad (rb:=rb) (rest:=rest) hT hne hB ?_ hok hn hdis hLen
  rcases h with h0|⟨h1,_,h2⟩
  · exact .inl (List.eq_nil_of_length_eq_zero h0)
  · exact .inr ⟨h1,h2⟩
/-- The index without hash functions, made anew. -/
theorem newSorted (w : World) : Calls Tryz.prog 85 #[] w fun e w'=>∃ ix bm,e = .returned (.iface 238 (.pointer (some ⟨ix,0,none⟩))) ∧ w.heap.size ≤ ix ∧ w.heap.size ≤ bm ∧ ix ≠ bm ∧ Blk w' ix [.map (some bm)] 237 (0,0) ∧ Mp w' bm .u32 [] ∧ Fr [] w w':=by
  have hM : Mp (w.alloc (.map #[] 0)) w.heap.size .u32 []:=Mp.new
  go_enter Tryz.func85,Tryz.ntmps85
  go_wp2
  go_ret
  refine ⟨_,w.heap.size,rfl,by simp,Nat.le_refl _,by simp,?_,hM.fr (Fr.alloc Fr.refl : Fr [] _ _) (by simp),by exact frP⟩
  exact Blk.conv (cs':=[_]) (by repeat (first|(with_reducible refine Blk.newAt ?_;(simp;done))|(with_reducible apply Blk.drew)|(with_reducible apply Blk.alloc))) rfl
theorem indexNewS (w : World) : Calls Tryz.prog 50 #[.int .u64 1024] w fun e w'=>∃ ix bm,e = .returned (.tuple #[.iface 238 (.pointer (some ⟨ix,0,none⟩)),.nilIface]) ∧ w.heap.size ≤ ix ∧ w.heap.size ≤ bm ∧ ix ≠ bm ∧ Blk w' ix [.map (some bm)] 237 (0,0) ∧ Mp w' bm .u32 [] ∧ Fr [] w w':=by
  go_enter Tryz.func50,Tryz.ntmps50
  go_wp2_with (first
    | go_at_call 85;refine (newSorted _).mono ?_;rintro e w1 ⟨ix,bm,rfl,h1,h2,h3,hT,hM,hF⟩)
  go_ret2
  exact ⟨ix,bm,rfl,h1,h2,h3,hT,hM,hF⟩
end Go.Proofs.Wx

namespace Go.Proofs.Wx
open Go Go.RowKit
abbrev tMI : TypeId:=238
abbrev tXI : TypeId:=170
/-- What is written of entries, by the kind. -/
def bodyB (k : Nat) (l : List Itm) : List UInt8:=if k = 1024 then groupB l else idxB l
def OnceK (k : Nat) (l : List Itm) : Prop:=if k = 1024 then Distinct l else OnceC l
theorem bodyB_len {k : Nat} {l : List Itm} (hd : ∀ e ∈ l,e.1.dig.length ≤ 200) : (bodyB k l).length ≤ 4 + 232 * l.length:=by
  unfold bodyB
  split
  · have:=groupB_len hd;omega
  · exact idxB_len hd
/-- v is an index of the kind k that holds the entries l, in blocks of D. -/
def IdxAt (k : Nat) (w : World) (v : Value) (D : Nat → Prop) (l : List Itm) : Prop :=
  (k = 1024 ∧ ∃ ix bm ks ib,v = .iface tMI (.pointer (some ⟨ix,0,none⟩)) ∧ Blk w ix [.map (some bm)] 237 (0,0) ∧ D ix ∧ Grp w bm D l ks ib) ∨
  (k = 1025 ∧ ∃ ix bm cs cb bc ks ib,v = .iface tXI (.pointer (some ⟨ix,0,none⟩)) ∧ Ixs w ix bm D l cs cb bc ks ib)
theorem IdxAt.fr {k : Nat} {w w' : World} {v : Value} {D : Nat → Prop} {l : List Itm} {S : List Nat} (h : IdxAt k w v D l) (hf : Fr S w w') (hS : ∀ k ∈ S,¬ D k) : IdxAt k w' v D l:=by
  rcases h with ⟨hk,ix,bm,ks,ib,e,hT,hD,hG⟩|⟨hk,ix,bm,cs,cb,bc,ks,ib,e,hX⟩
  · exact .inl ⟨hk,ix,bm,ks,ib,e,hf.blk hT (fun hm=>hS _ hm hD),hD,hG.fr hf hS⟩
  · exact .inr ⟨hk,ix,bm,cs,cb,bc,ks,ib,e,hX.fr hf hS⟩
theorem IdxAt.mono {k : Nat} {w : World} {v : Value} {D D' : Nat → Prop} {l : List Itm} (h : IdxAt k w v D l) (hd : ∀ b,b < w.heap.size → D b → D' b) : IdxAt k w v D' l:=by
  rcases h with ⟨hk,ix,bm,ks,ib,e,hT,hD,hG⟩|⟨hk,ix,bm,cs,cb,bc,ks,ib,e,hX⟩
  · exact .inl ⟨hk,ix,bm,ks,ib,e,hT,hd _ hT.lt hD,hG.mono hd⟩
  · exact .inr ⟨hk,ix,bm,cs,cb,bc,ks,ib,e,hX.mono hd⟩
variable {T : TypeId} {a : Addr} {P : List Nat} {f : Nat} {K : World → Value → List UInt8 → Prop}
/-- index.WriteTo. -/
theorem idxWriteS {w : World} {base k : Nat} {D : Nat → Prop} {l : List Itm} {iv v : Value} {ys : List UInt8} (hs : Snk T a P base K f) (hBuf : K w v ys) (hI : IdxAt k w iv D l)
    (hl : l.length ≤ 50) (hd : ∀ e ∈ l,e.1.dig.length ≤ 200) (hc : ∀ e ∈ l,e.1.code < 9223372036854775808) (hlen : ys.length < 5000000) (hbase : base ≤ w.heap.size) (hp : ∀ k ∈ P,¬ D k) (hv : ∀ k,v.ownBlock = some k → ¬ D k) (hhi : ∀ b,D b → b < w.heap.size) (hLen : LenC) :
    Calls Tryz.prog 64 #[iv,.iface T (.pointer (some a))] w fun e w'=>(∃ N : Int,e = .returned (.tuple #[.int .u64 N,.nilIface])) ∧ ∃ v',SW P K w v w' v' (ys ++ (Lib.uvarint k ++ bodyB k l)):=by
  have hdis : ∀ k ∈ P ++ v.ownBlock.toList,¬ D k:=by
    intro k hk
    rcases List.mem_append.1 hk with hk|hk
    · exact hp _ hk
    · exact hv k (by simpa using hk)
  have hv2 : ∀ {w1 v1 ys1},SW P K w v w1 v1 ys1 → ∀ k,v1.ownBlock = some k → ¬ D k:=fun hW k hk=>by
    rcases hW.own with e|⟨k',e,h⟩
    · exact hv k (by rw [← e];exact hk)
    · rw [hk] at e;cases e;exact fun hd=>by have:=hhi _ hd;omega
  rcases hI with ⟨rfl,ix,bm,ks,ib,rfl,hT,hD,hG⟩|⟨rfl,ix,bm,cs,cb,bc,ks,ib,rfl,hX⟩
  · have hTl:=hT.lt
    refine indexWriteG hs hBuf (fc:=384) (fm:=300) (by omega) (by rw [uv1024];rfl) (fun _=>by kernel_rfl) (fun _=>by kernel_rfl) (fun _=>by kernel_rfl) (fun _=>by kernel_rfl) (fun _=>by kernel_rfl) (fun _ _=>by kernel_rfl) (codecS _) (fun w1 v1 hW=>?_) hlen hbase
    exact mwMarshalS hs hW.buf (by rw [(hW.fr.blk hT (fun hm=>hdis _ hm hD)).cell];rfl) (Nat.lt_of_lt_of_le hTl hW.fr.size) hD (hG.fr hW.fr hdis) hl hd (by rw [List.length_append,uv1024];simp;omega) (Nat.le_trans hbase hW.fr.size) hp (hv2 hW) (fun b hb=>Nat.lt_of_lt_of_le (hhi b hb) hW.fr.size) hLen
  · refine indexWriteG hs hBuf (fc:=280) (fm:=283) (by omega) (by rw [uv1025];rfl) (fun _=>by kernel_rfl) (fun _=>by kernel_rfl) (fun _=>by kernel_rfl) (fun _=>by kernel_rfl) (fun _=>by kernel_rfl) (fun _ _=>by kernel_rfl) (codec _) (fun w1 v1 hW=>?_) hlen hbase
    exact mhMarshalS hs hW.buf (hX.fr hW.fr hdis) hl hd hc (by rw [List.length_append,uv1025];simp;omega) (Nat.le_trans hbase hW.fr.size) hp (hv2 hW) (fun b hb=>Nat.lt_of_lt_of_le (hhi b hb) hW.fr.size) hLen
/-- An index without entries, of either kind, made anew. -/
def Idx0 (k : Nat) (w : World) (v : Value) (ix bm : Nat) : Prop :=
  (k = 1024 ∧ v = .iface tMI (.pointer (some ⟨ix,0,none⟩)) ∧ Blk w ix [.map (some bm)] 237 (0,0) ∧ Mp w bm .u32 []) ∨
  (k = 1025 ∧ v = .iface tXI (.pointer (some ⟨ix,0,none⟩)) ∧ Blk w ix [.map (some bm)] 240 (0,0) ∧ Mp w bm .u64 [])
theorem Idx0.fr {k : Nat} {w w' : World} {v : Value} {ix bm : Nat} {S : List Nat} (h : Idx0 k w v ix bm) (hf : Fr S w w') (h1 : ix ∉ S) (h2 : bm ∉ S) : Idx0 k w' v ix bm:=by
  rcases h with ⟨hk,e,hT,hM⟩|⟨hk,e,hT,hM⟩
  · exact .inl ⟨hk,e,hf.blk hT h1,hM.fr hf h2⟩
  · exact .inr ⟨hk,e,hf.blk hT h1,hM.fr hf h2⟩
theorem indexNewK {k : Nat} (hk : k = 1024 ∨ k = 1025) (w : World) : Calls Tryz.prog 50 #[.int .u64 k] w fun e w'=>∃ v ix bm,e = .returned (.tuple #[v,.nilIface]) ∧ Idx0 k w' v ix bm ∧ w.heap.size ≤ ix ∧ w.heap.size ≤ bm ∧ ix ≠ bm ∧ ix < w'.heap.size ∧ bm < w'.heap.size ∧ Fr [] w w':=by
  rcases hk with rfl|rfl
  · exact (indexNewS w).mono fun e w' ⟨ix,bm,h1,h2,h3,h4,h5,h6,h7⟩=>⟨_,ix,bm,h1,.inl ⟨rfl,rfl,h5,h6⟩,h2,h3,h4,h5.lt,h6.lt,h7⟩
  · exact (indexNew w).mono fun e w' ⟨ix,bm,h1,h2,h3,h4,h5,h6,h7⟩=>⟨_,ix,bm,h1,.inr ⟨rfl,rfl,h5,h6⟩,h2,h3,h4,h5.lt,h6.lt,h7⟩
/-- idx.Load, by the kind: the function that is called, and what it does. -/
def loadF (k : Nat) : Nat:=if k = 1024 then 287 else 282
def idxT (k : Nat) : TypeId:=if k = 1024 then tMI else tXI
theorem Idx0.iface {k : Nat} {w : World} {v : Value} {ix bm : Nat} (h : Idx0 k w v ix bm) : v = .iface (idxT k) (.pointer (some ⟨ix,0,none⟩)):=by
  rcases h with ⟨rfl,e,_⟩|⟨rfl,e,_⟩ <;> exact e
theorem loadF_ahead {k ix : Nat} (hk : k = 1024 ∨ k = 1025) (w : World) : (nilAhead 615 (idxT k) (.pointer (some ⟨ix, 0, none⟩)) "Load").run Tryz.prog w = .ok (some false) w := by
  rcases hk with rfl|rfl <;> kernel_rfl
theorem loadF_meth {k ix : Nat} (hk : k = 1024 ∨ k = 1025) (w : World) : (method 615 (idxT k) (.pointer (some ⟨ix, 0, none⟩)) "Load").run Tryz.prog w = .ok (loadF k, .pointer (some ⟨ix, 0, none⟩)) w := by
  rcases hk with rfl|rfl <;> kernel_rfl
theorem loadF_enter {k ix : Nat} (hk : k = 1024 ∨ k = 1025) (w : World) (a : Value) : (callFunc (loadF k) #[.pointer (some ⟨ix,0,none⟩),a]).run Tryz.prog w = .ok (.enter (loadF k) #[.pointer (some ⟨ix,0,none⟩),a]) w:=by
  rcases hk with rfl|rfl <;> kernel_rfl
theorem loadK {k : Nat} {w : World} {ix bm base : Nat} {iv v : Value} {L : List Itm} (h0 : Idx0 k w iv ix bm) (hne : ix ≠ bm) (hI : w.ownsRow base 120 2 v L.length (recC L)) (hb : bm < base)
    (hok : ∀ e ∈ L,e.1.Ok ∧ e.2 < 9223372036854775808) (hn : L.length ≤ 50) (hdis : OnceK k L) (hLen : LenC) :
    Calls Tryz.prog (loadF k) #[.pointer (some ⟨ix,0,none⟩),v] w fun e w'=>e = .returned .nilIface ∧ IdxAt k w' iv (Nw w w' [ix,bm]) L ∧ Fr [bm] w w':=by
  rcases h0 with ⟨rfl,rfl,hT,hM⟩|⟨rfl,rfl,hT,hM⟩
  · refine (loadS (hT.cell 0) hT.lt hne hM hI hb hok hn hdis hLen).mono ?_
    rintro e w' ⟨rfl,ks,ib,hG,hF⟩
    exact ⟨rfl,.inl ⟨rfl,ix,bm,ks,ib,rfl,hF.blk hT (by simp;exact hne),.inl (by simp),hG.mono fun b _ h=>h.imp (fun hm=>by simp at hm;simp [hm]) id⟩,hF⟩
  · refine (loadM hT hne hM hI hok hn hdis hLen).mono ?_
    rintro e w' ⟨rfl,cs,cb,bc,ks,ib,hX,hF⟩
    exact ⟨rfl,.inr ⟨rfl,ix,bm,cs,cb,bc,ks,ib,rfl,hX⟩,hF⟩
end Go.Proofs.Wx

namespace Go.Proofs.Wx
open Go Go.RowKit
abbrev oLdS0 : List (Nat × Cls):=[(0,.look),(1,.free),(2,.free)]
section
variable {T : TypeId} {ra : Addr} {S D : List Nat} {xs : List UInt8} {I : World → Nat → Prop} {f fb : Nat}
theorem ldReadSizeS (hb : BSrc T ra S xs I fb) (hbr : ∀ w,Calls Tryz.prog 135 #[.iface T (.pointer (some ra))] w fun e w'=>e = .returned (.iface T (.pointer (some ra))) ∧ w = w') {w : World} {i n : Nat} {rest : List UInt8} (h : I w i) (hx : xs.drop i = Lib.uvarint n ++ rest) (m : Int) (hn : (n : Int) ≤ m) (hn2 : n < 1000000000000) (z : Bool) (h0 : 0 < n) :
    Calls Tryz.prog 145 #[.iface T (.pointer (some ra)),.bool z,.int .u64 m] w fun e w' =>
      e = .returned (.tuple #[.int .u64 n,.nilIface]) ∧ I w' (i + (Lib.uvarint n).length) ∧ Fr S w w':=by
  have hc:=readUvarint hb h (show n < 2 ^ 63 by omega) hx
  clear hx
  go_enter Tryz.func145,Tryz.ntmps145
  go_wp2_with (first
    | go_at_call 135;refine (hbr _).mono ?_;rintro e w1 ⟨rfl,rfl⟩
    | go_at_call 89;refine hc.mono ?_;rintro e w1 ⟨rfl,hR1,hF1⟩
    | (refine wre 4 oLdS0 ?_)
    | (refine wre 7 oLdS0 ?_)
    | (refine wre 9 oLdS0 ?_)
    | (with_reducible refine wEI ?_;(first|(refine wEN ?_;skip)|(refine wEF rfl (fun K hK=>?_);go_simp)|(refine wEL rfl rfl (fun K hK=>?_);go_simp)|(refine wER rfl (fun K hK=>?_);go_simp)|(refine wEM rfl (fun K hK=>?_);go_simp;try refine ⟨_,_,⟨rfl,rfl⟩,?_⟩)|(refine wEG rfl (fun K hK=>?_);go_simp)|(refine wEA rfl (fun K hK=>?_);go_simp))))
  go_ret2
  exact ⟨rfl,hR1,hF1⟩
theorem ldReadS (hs : Src T ra S D xs I f) (hb : BSrc T ra S xs I fb) (hbr : ∀ w,Calls Tryz.prog 135 #[.iface T (.pointer (some ra))] w fun e w'=>e = .returned (.iface T (.pointer (some ra))) ∧ w = w') {w : World} {i n : Nat} {rest : List UInt8} (h : I w i) (hx : xs.drop i = Lib.uvarint n ++ rest) (m : Int) (hn : (n : Int) ≤ m) (hn2 : n < 1000000000000) (z : Bool) (h0 : 0 < n) (hr : n ≤ rest.length) :
    Calls Tryz.prog 121 #[.iface T (.pointer (some ra)),.bool z,.int .u64 m] w fun e w' =>
      ∃ b,e = .returned (.tuple #[.slice (some ⟨b,0,none⟩) n n,.nilIface]) ∧ w.heap.size ≤ b ∧ I w' (i + (Lib.uvarint n).length + n) ∧ Blk w' b (by8 (rest.take n)) 5 (0,0) ∧ Fr S w w':=by
  have hlen : i + (Lib.uvarint n).length + n ≤ xs.length:=by
    have:=congrArg List.length hx
    have hp:=Lib.uvarint_pos n
    simp at this;omega
  have hd : (xs.drop (i + (Lib.uvarint n).length)).take n = rest.take n:=by
    rw [← List.drop_drop,hx];simp
  have hlt:=hs.lt _ _ h
  have hc:=ldReadSizeS hb hbr h hx m hn hn2 z h0
  clear hx
  have Hd:=Lib.hid hd
  clear hd
  go_enter Tryz.func121,Tryz.ntmps121
  go_wp2_with (first
    | go_at_call 145;refine hc.mono ?_;rintro e w1 ⟨rfl,hR1,hF1⟩
    | (with_reducible refine list_makeSlice (fun K hK=>?_);  refine makeB _ _ rfl _ _ _ _ n n rfl rfl rfl rfl (Nat.le_refl _) (by omega) ?_)
    | go_at_call 115;have hs1:=hF1.size;refine (readFullS hs (hs.fr _ _ [] _ hR1 (by exact frP) (by simp)) _ 0 n n (List.replicate n (.int .u8 0)) _ Blk.new (by simp) (by omega) (fun hm=>by have:=hlt _ hm;omega) hlen).mono ?_;rintro e w2 ⟨rfl,hR2,hB2,hF2⟩;replace hF2 : Fr S w w2:=Fr.trans (S:=S) (by exact frP) hF2 (fun k hk hl=>by rcases List.mem_cons.1 hk with rfl|hk;omega;exact hk))
  go_ret2
  refine ⟨_,rfl,hF1.size,hR2,?_,hF2⟩
  exact hB2.conv (by rw [Hd.out];simp [lay,by8,Nat.min_eq_left hr])
theorem readPragmaS (hs : Src T ra S D xs I f) (hb : BSrc T ra S xs I fb) (hbr : ∀ w,Calls Tryz.prog 135 #[.iface T (.pointer (some ra))] w fun e w'=>e = .returned (.iface T (.pointer (some ra))) ∧ w = w') {ea : Addr} {w : World} {rest : List UInt8} (h : I w 0) (hx : xs = pragmaB ++ rest) (hG : Gl ea w) (hge : ∀ k ∈ S,28 ≤ k) :
    Calls Tryz.prog 88 #[.iface T (.pointer (some ra)),.int .u64 33554432] w fun e w' =>
      ∃ p hv,e = .returned (.tuple #[.pointer (some ⟨p,0,none⟩),.nilIface]) ∧ w.heap.size ≤ p ∧ Blk w' p [hv,.int .u64 2] 182 (0,0) ∧ I w' 11 ∧ Fr S w w':=by
  have hlen : pgB.length = 10:=by decide
  have hul : (Lib.uvarint pgB.length).length = 1:=by rw [hlen,Lib.uvarint_small (by decide)];rfl
  have hlt:=hs.lt _ _ h
  have hgs:=hG.size
  have hrd:=ldReadS (n:=pgB.length) (rest:=pgB ++ rest) hs hb hbr h (by rw [hx,pgB_eq];simp) 33554432 (by omega) (by omega) false (by omega) (by simp)
  rw [List.take_left,hul,hlen] at hrd
  have hdec:=fun (w' : World) (b hb : Nat) (hv : Value) (hB : Blk w' b (by8 pgB) 5 (0,0)) (hH : Blk w' hb [hv,.int .u64 (0 : Nat)] 182 (0,0)) hne (hG : Gl ea w') hg=>zzDecodePragma (v:=.slice (some ⟨b,0,none⟩) 10 10) (xs:=pgB) (by simp [pgB]) (Sl.mk (Blk.bs (pre:=[]) (post:=[]) hB (by simp) rfl) (by rw [hlen];exact Nat.le_refl _) (by omega) (by rw [hlen])) hH hne hG hg
  clear hx
  generalize pgB = X at *
  go_enter Tryz.func88,Tryz.ntmps88
  go_wp2_with (first
    | go_at_call 121;refine hrd.mono ?_;rintro e w1 ⟨b,rfl,hb1,hR1,hB1,hF1⟩;have hG1:=hG.fr hF1 hge;have hbl:=hB1.lt;have hsz1:=hF1.size;have hrl1:=hs.lt _ _ hR1
    | go_at_call 122;refine (hdec _ b w1.heap.size _ hB1.alloc (Blk.new (cs:=[_,_])) (by omega) (hG1.fr (S:=[]) (by exact frP) (by simp)) (by omega)).mono ?_;rintro e w2 ⟨hv,rfl,hH2,hF2⟩)
  go_ret2
  have hF12 : Fr [] w1 w2:=Fr.trans (S:=[]) (S':=[w1.heap.size]) (by exact frP) hF2 (by simp)
  exact ⟨w1.heap.size,hv,rfl,hF1.size,hH2,hs.fr _ _ _ _ hR1 hF12 (by simp),hF1.trans hF12 (by simp)⟩
theorem readVersionS (hs : Src T ra S D xs I f) (hb : BSrc T ra S xs I fb) (hbr : ∀ w,Calls Tryz.prog 135 #[.iface T (.pointer (some ra))] w fun e w'=>e = .returned (.iface T (.pointer (some ra))) ∧ w = w') {ea : Addr} {w : World} {B b : Nat} {rest : List UInt8} (h : I w 0) (hO : OptsAt w B b) (hx : xs = pragmaB ++ rest) (hG : Gl ea w) (hge : ∀ k ∈ S,28 ≤ k) :
    Calls Tryz.prog 69 #[.iface T (.pointer (some ra)),.slice (some ⟨B,0,none⟩) 8 8] w fun e w' =>
      e = .returned (.tuple #[.int .u64 2,.nilIface]) ∧ I w' 11 ∧ Fr S w w':=by
  have hgs:=hG.size
  have hao:=applyOptions hO
  go_enter Tryz.func69,Tryz.ntmps69
  go_wp2_with (first
    | go_at_call 49;refine hao.mono ?_;rintro e w1 ⟨rfl,hF1⟩;have hs1:=hF1.size
    | go_at_call 88;refine (readPragmaS hs hb hbr (hs.fr _ _ [] _ h (Fr.trans (S:=[]) (S':=[]) hF1 (Fr.alloc Fr.refl) (by simp)) (by simp)) hx (hG.fr (S:=[]) (Fr.trans (S:=[]) (S':=[]) hF1 (Fr.alloc Fr.refl) (by simp)) (by simp)) hge).mono ?_;rintro e w2 ⟨p,hv,rfl,hp,hH2,hR2,hF2⟩;have hc2:=hH2.cells)
  go_ret2
  exact ⟨rfl,hR2,Fr.trans (S:=S) (S':=S) (Fr.trans (S:=S) (S':=[]) (hF1.mono (by simp)) (Fr.alloc Fr.refl) (by simp)) hF2 (fun k hk _=>hk)⟩
end
end Go.Proofs.Wx

namespace Go.Proofs.Wx
open Go Go.RowKit
def unmF (k : Nat) : Nat:=if k = 1024 then 303 else 284
theorem unmF_ahead {k ix : Nat} (hk : k = 1024 ∨ k = 1025) (w : World) : (nilAhead 615 (idxT k) (.pointer (some ⟨ix, 0, none⟩)) "Unmarshal").run Tryz.prog w = .ok (some false) w := by
  rcases hk with rfl|rfl <;> kernel_rfl
theorem unmF_meth {k ix : Nat} (hk : k = 1024 ∨ k = 1025) (w : World) : (method 615 (idxT k) (.pointer (some ⟨ix, 0, none⟩)) "Unmarshal").run Tryz.prog w = .ok (unmF k, .pointer (some ⟨ix, 0, none⟩)) w := by
  rcases hk with rfl|rfl <;> kernel_rfl
theorem unmF_enter {k ix : Nat} (hk : k = 1024 ∨ k = 1025) (w : World) (a : Value) : (callFunc (unmF k) #[.pointer (some ⟨ix,0,none⟩),a]).run Tryz.prog w = .ok (.enter (unmF k) #[.pointer (some ⟨ix,0,none⟩),a]) w:=by
  rcases hk with rfl|rfl <;> kernel_rfl
section
variable {T : TypeId} {ra : Addr} {S D : List Nat} {xs : List UInt8} {I : World → Nat → Prop} {f fb fk : Nat}
theorem unmK (hs : Src T ra S D xs I f) (hk : Skr T ra S xs I fk) {k : Nat} {w : World} {i ix bm : Nat} {iv : Value} {l : List Itm} {rest : List UInt8} (h : I w i) (hx : xs.drop i = bodyB k l ++ rest) (hxl : xs.length ≤ 100000000) (hl : l.length ≤ 50) (hd : ∀ e ∈ l,e.1.dig.length ≤ 200) (hc : ∀ e ∈ l,e.1.code < 9223372036854775808)
    (h0 : Idx0 k w iv ix bm) (hne : ix ≠ bm) (hiD : ix ∉ D) (hbD : bm ∉ D) :
    Calls Tryz.prog (unmF k) #[.pointer (some ⟨ix,0,none⟩),.iface T (.pointer (some ra))] w fun e w'=>e = .returned .nilIface ∧ IdxAt k w' iv (Nw w w' [ix,bm]) l ∧ Fr (bm :: S) w w':=by
  have hiS : ix ∉ S:=fun hm=>hiD (hs.sub _ hm)
  rcases h0 with ⟨rfl,rfl,hT,hM⟩|⟨rfl,rfl,hT,hM⟩
  · refine (mwUnmS hs hk h hx hxl hl hd (hT.cell 0) hT.lt hne hiD hbD hM).mono ?_
    rintro e w' ⟨rfl,_,⟨ks,ib,hG⟩,hF⟩
    exact ⟨rfl,.inl ⟨rfl,ix,bm,ks,ib,rfl,hF.blk hT (by simp;exact ⟨hne,hiS⟩),.inl (by simp),hG.mono fun b _ h=>h.imp (fun hm=>by simp at hm;simp [hm]) id⟩,hF⟩
  · refine (mhUnmS hs hk h hx hxl hl hd hc hT hne hiD hbD hM).mono ?_
    rintro e w' ⟨rfl,_,⟨cs,cb,bc,ks,ib,hX⟩,hF⟩
    exact ⟨rfl,.inr ⟨rfl,ix,bm,cs,cb,bc,ks,ib,rfl,hX⟩,hF⟩
theorem readCodecS (hb : BSrc T ra S xs I fb) (hbr : ∀ w,Calls Tryz.prog 135 #[.iface T (.pointer (some ra))] w fun e w'=>e = .returned (.iface T (.pointer (some ra))) ∧ w = w') {w : World} {i k : Nat} {rest : List UInt8} (h : I w i) (hx : xs.drop i = Lib.uvarint k ++ rest) (hk : k < 1000000) :
    Calls Tryz.prog 112 #[.iface T (.pointer (some ra))] w fun e w'=>e = .returned (.tuple #[.int .u64 k,.nilIface]) ∧ I w' (i + (Lib.uvarint k).length) ∧ Fr S w w':=by
  have hc:=readUvarint hb h (show k < 2 ^ 63 by omega) hx
  clear hx
  go_enter Tryz.func112,Tryz.ntmps112
  go_wp2_with (first
    | go_at_call 135;refine (hbr _).mono ?_;rintro e w1 ⟨rfl,rfl⟩
    | go_at_call 89;refine hc.mono ?_;rintro e w1 ⟨rfl,hR1,hF1⟩)
  go_ret2
  exact ⟨rfl,hR1,hF1⟩
theorem readFromS (hs : Src T ra S D xs I f) (hb : BSrc T ra S xs I fb) (hbr : ∀ w,Calls Tryz.prog 135 #[.iface T (.pointer (some ra))] w fun e w'=>e = .returned (.iface T (.pointer (some ra))) ∧ w = w') (hk : Skr T ra S xs I fk) {k : Nat} (hk2 : k = 1024 ∨ k = 1025) {w : World} {i : Nat} {l : List Itm} {rest : List UInt8} (h : I w i) (hx : xs.drop i = Lib.uvarint k ++ (bodyB k l ++ rest)) (hxl : xs.length ≤ 100000000) (hl : l.length ≤ 50) (hd : ∀ e ∈ l,e.1.dig.length ≤ 200) (hc : ∀ e ∈ l,e.1.code < 9223372036854775808) :
    Calls Tryz.prog 74 #[.iface T (.pointer (some ra))] w fun e w'=>∃ iv,e = .returned (.tuple #[iv,.nilIface]) ∧ IdxAt k w' iv (Rg w.heap.size w'.heap.size) l ∧ Fr S w w':=by
  have hrc:=readCodecS hb hbr h hx (by omega)
  have hlt:=hs.lt _ _ h
  have hx2 : xs.drop (i + (Lib.uvarint k).length) = bodyB k l ++ rest:=by rw [← List.drop_drop,hx,List.drop_left' rfl]
  have hun:=fun (w2 : World) (iv : Value) (ix bm : Nat) (hR : I w2 (i + (Lib.uvarint k).length)) (h0 : Idx0 k w2 iv ix bm) h1 h2 h3=>unmK hs hk hR hx2 hxl hl hd hc h0 h1 h2 h3
  have hnw:=indexNewK hk2
  have hua:=fun (ix : Nat)=>unmF_ahead (ix:=ix) hk2
  have hum:=fun (ix : Nat)=>unmF_meth (ix:=ix) hk2
  have hue:=fun (ix : Nat)=>unmF_enter (ix:=ix) hk2
  have HX:=Lib.hid (And.intro hx hx2)
  clear hx hx2
  go_enter Tryz.func74,Tryz.ntmps74
  go_wp2_with (first
    | go_at_call 112;refine hrc.mono ?_;rintro e w1 ⟨rfl,hR1,hF1⟩;clear hrc;have hs1:=hF1.size
    | go_at_call 50;refine (hnw _).mono ?_;rintro e w2 ⟨iv,ix,bm,rfl,hI2,hi1,hi2,hi3,hi4,hi5,hF2⟩;clear hnw;have hivE:=hI2.iface;have hR2:=hs.fr _ _ [] _ hR1 (Fr.trans (S:=[]) (by exact frP) hF2 (by simp)) (by simp);subst hivE
    | have q1 : ix ∉ D:=(fun hm=>by have:=hlt _ hm;omega);have q2 : bm ∉ D:=(fun hm=>by have:=hlt _ hm;omega);(with_reducible refine (hun _ _ ix bm hR2 hI2 hi3 q1 q2).mono ?_);rintro e w3 ⟨rfl,hI3,hF3⟩)
  go_ret2
  have hs3:=hF3.size
  have hF12 : Fr [] w1 w2:=Fr.trans (S:=[]) (by exact frP) hF2 (by simp)
  refine ⟨_,rfl,hI3.mono (fun b hb h=>⟨?_,hb⟩),?_⟩
  · rcases h with h|h
    · simp at h;omega
    · have:=hF12.size;have:=h.1;omega
  · refine Fr.trans (S:=S) (S':=bm :: S) (Fr.trans (S:=S) (S':=[]) hF1 hF12 (by simp)) hF3 (fun k hk hl=>?_)
    rcases List.mem_cons.1 hk with rfl|hk
    · omega
    · exact hk
end
end Go.Proofs.Wx
