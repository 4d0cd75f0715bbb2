import Derived.Test.YtdokbceiganhdaaGreatDoorM1
import Derived.Test.YtdokbceiganhdaaGreatDoorM7
import Derived.Test.YtdokbceiganhdaaGreatDoorM10
import Derived.Test.YtdokbceiganhdaaGreatDoorM11
import Derived.Test.YtdokbceiganhdaaGreatDoorM15
set_option maxRecDepth 100000
set_option maxHeartbeats 1000000
set_option linter.unusedVariables false
set_option linter.unusedSimpArgs false
set_option linter.deprecated false
set_option linter.all false
set_option linter.unusedSectionVars false
namespace Go.Proofs.Wx
open Go Go.RowKit
theorem optUseIndexCodec {w : World} {k : Nat} : Calls Tryz.prog 60 #[.int .u64 k] w fun e w'=>e = .returned (.func (.func 100) #[] #[.pointer (some ⟨w.heap.size,0,none⟩)]) ∧ w' = w.alloc (.cells #[.int .u64 k] 99):=by
  go_enter Tryz.func60,Tryz.ntmps60
  go_wp2
  go_ret
  exact ⟨rfl,rfl⟩
abbrev codecF (c : Nat) : Value:=.func (.func 100) #[] #[.pointer (some ⟨c,0,none⟩)]
abbrev optVs (b : Nat) : List Value:=[.func (.func 92) #[] #[.pointer (some ⟨b + 0,0,none⟩)],.func (.func 93) #[] #[.pointer (some ⟨b + 1,0,none⟩)],.func (.func 94) #[] #[.pointer (some ⟨b + 2,0,none⟩)],.func (.func 95) #[] #[.pointer (some ⟨b + 3,0,none⟩)],.func (.func 96) #[] #[.pointer (some ⟨b + 4,0,none⟩)],.func (.func 97) #[] #[.pointer (some ⟨b + 5,0,none⟩)],.func (.func 98) #[] #[.pointer (some ⟨b + 6,0,none⟩)],.func (.func 99) #[] #[.pointer (some ⟨b + 7,0,none⟩)]]
/-- Nine options: those of a call that asks for nothing, and one that names the index. -/
structure OptsC (w : World) (B b c k : Nat) : Prop where
  lt : B < w.heap.size
  r0 : w.cell? ⟨B,0,none⟩ = some (.func (.func 92) #[] #[.pointer (some ⟨b + 0,0,none⟩)])
  r1 : w.cell? ⟨B,1,none⟩ = some (.func (.func 93) #[] #[.pointer (some ⟨b + 1,0,none⟩)])
  r2 : w.cell? ⟨B,2,none⟩ = some (.func (.func 94) #[] #[.pointer (some ⟨b + 2,0,none⟩)])
  r3 : w.cell? ⟨B,3,none⟩ = some (.func (.func 95) #[] #[.pointer (some ⟨b + 3,0,none⟩)])
  r4 : w.cell? ⟨B,4,none⟩ = some (.func (.func 96) #[] #[.pointer (some ⟨b + 4,0,none⟩)])
  r5 : w.cell? ⟨B,5,none⟩ = some (.func (.func 97) #[] #[.pointer (some ⟨b + 5,0,none⟩)])
  r6 : w.cell? ⟨B,6,none⟩ = some (.func (.func 98) #[] #[.pointer (some ⟨b + 6,0,none⟩)])
  r7 : w.cell? ⟨B,7,none⟩ = some (.func (.func 99) #[] #[.pointer (some ⟨b + 7,0,none⟩)])
  r8 : w.cell? ⟨B,8,none⟩ = some (codecF c)
  c0 : Blk w (b + 0) [.bool false] 4 (0,0)
  c1 : Blk w (b + 1) [.bool false] 4 (0,0)
  c2 : Blk w (b + 2) [.bool false] 4 (0,0)
  c3 : Blk w (b + 3) [.bool false] 4 (0,0)
  c4 : Blk w (b + 4) [.bool false] 4 (0,0)
  c5 : Blk w (b + 5) [.bool false] 4 (0,0)
  c6 : Blk w (b + 6) [.int .u64 0] 26 (0,0)
  c7 : Blk w (b + 7) [.int .u64 0] 26 (0,0)
  c8 : Blk w c [.int .u64 k] 99 (0,0)
theorem OptsC.fr {w w' : World} {B b c k : Nat} {S : List Nat} (h : OptsC w B b c k) (hf : Fr S w w') (hB : B ∉ S) (hb : ∀ k ∈ S,k < b ∨ b + 8 ≤ k) (hc : c ∉ S) : OptsC w' B b c k:=by
  obtain ⟨hl,r0,r1,r2,r3,r4,r5,r6,r7,r8,h1,h2,h3,h4,h5,h6,h7,h8,h9⟩:=h
  have o : ∀ i,i < 8 → b + i ∉ S:=fun i hi hm=>by have:=hb _ hm;omega
  have e : ∀ j,w'.cell? ⟨B,j,none⟩ = w.cell? ⟨B,j,none⟩:=fun j=>World.cell?_of_block (w:=w) (hf.block B hl hB)
  exact ⟨Nat.lt_of_lt_of_le hl hf.size,(e 0).trans r0,(e 1).trans r1,(e 2).trans r2,(e 3).trans r3,(e 4).trans r4,(e 5).trans r5,(e 6).trans r6,(e 7).trans r7,(e 8).trans r8,hf.blk h1 (o 0 (by omega)),hf.blk h2 (o 1 (by omega)),hf.blk h3 (o 2 (by omega)),hf.blk h4 (o 3 (by omega)),hf.blk h5 (o 4 (by omega)),hf.blk h6 (o 5 (by omega)),hf.blk h7 (o 6 (by omega)),hf.blk h8 (o 7 (by omega)),hf.blk h9 hc⟩
abbrev codecOpts (k : Nat) : Value:=.agg #[.bool false,.bool false,.bool false,.bool false,.bool false,.bool false,.int .u64 0,.int .u64 0,.int .u64 k,.int .u64 0,.int .u64 0,.int .u64 0]
theorem opt_slice : Tryz.prog.underlying 77 = some (.slice 108):=by kernel_rfl
theorem opt_inf : (Tryz.prog.info? 108).map (fun i=>(i.zero,i.size,i.bytes)) = some (some .nilFunc,1,8):=by kernel_rfl
/-- A slice that was just built is one's own. -/
theorem own_built {w : World} {base g n : Nat} {T : TypeId} {cs : List Value} (h : Blk w g cs T (0,0)) (hb : base ≤ g) (hn : cs.length = n) (hm : n ≤ 1000000) : w.ownsRow base T 1 (.slice (some ⟨g,0,none⟩) n n) n cs :=
  ⟨by omega,.inr ⟨g,n,cs.toArray,rfl,hb,h,Nat.le_refl _,by unfold maxLen;omega,by simp [hn],by simp [← hn]⟩⟩
set_option maxRecDepth 1000000 in
set_option maxHeartbeats 12800000 in
theorem optionsK {w : World} {k : Nat} (hk : 0 < k) : Calls Tryz.prog 34 #[codecOpts k] w fun e w'=>∃ B b c cap,e = .returned (.slice (some ⟨B,0,none⟩) 9 cap) ∧ OptsC w' B b c k ∧ w.heap.size ≤ b ∧ b + 8 ≤ c ∧ w.heap.size ≤ B ∧ Fr [] w w':=by
  have hki : ¬ (k : Int) = 0:=by omega
  go_enter Tryz.func34,Tryz.ntmps34
  go_wp2_with (first
    | go_at_call 52;refine optZeroLengthSectionAsEOF.mono ?_;rintro e w1 ⟨rfl,rfl⟩;(try go_simp);refine hK _ _ (World.Ext.alloc _ _) ?_
    | go_at_call 53;refine optStoreIdentityCIDs.mono ?_;rintro e w1 ⟨rfl,rfl⟩;(try go_simp);refine hK _ _ (World.Ext.alloc _ _) ?_
    | go_at_call 54;refine optAllowDuplicatePuts.mono ?_;rintro e w1 ⟨rfl,rfl⟩;(try go_simp);refine hK _ _ (World.Ext.alloc _ _) ?_
    | go_at_call 55;refine optUseWholeCIDs.mono ?_;rintro e w1 ⟨rfl,rfl⟩;(try go_simp);refine hK _ _ (World.Ext.alloc _ _) ?_
    | go_at_call 56;refine optWriteAsCarV1.mono ?_;rintro e w1 ⟨rfl,rfl⟩;(try go_simp);refine hK _ _ (World.Ext.alloc _ _) ?_
    | go_at_call 57;refine optWithTrustedCAR.mono ?_;rintro e w1 ⟨rfl,rfl⟩;(try go_simp);refine hK _ _ (World.Ext.alloc _ _) ?_
    | go_at_call 58;refine optUseDataPadding.mono ?_;rintro e w1 ⟨rfl,rfl⟩;(try go_simp);refine hK _ _ (World.Ext.alloc _ _) ?_
    | go_at_call 59;refine optUseIndexPadding.mono ?_;rintro e w1 ⟨rfl,rfl⟩;(try go_simp);refine hK _ _ (World.Ext.alloc _ _) ?_
    | go_at_call 60;refine optUseIndexCodec.mono ?_;rintro e w1 ⟨rfl,rfl⟩
    | ((with_reducible refine list_bi .append (fun K hK=>?_));  refine appOwn _ _ 77 rfl w.heap.size 108 .nilFunc 1 8 opt_slice opt_inf rfl (by omega) (.slice (some ⟨w.heap.size + 1 + 1 + 1 + 1 + 1 + 1 + 1 + 1 + 1,0,none⟩) 8 8) 8 (optVs (w.heap.size + 1)) rfl (own_built (Blk.conv (by repeat (first|(with_reducible refine Blk.newAt ?_;(simp;done))|(with_reducible apply Blk.drew)|(with_reducible apply Blk.alloc))) (by first|rfl|(simp;done))) (by omega) rfl (by omega)) _ 1 _ [codecF (w.heap.size + 1 + 1 + 1 + 1 + 1 + 1 + 1 + 1 + 1 + 1)] rfl rfl (newOne (by simp)) (by intro u hu;simp at hu;subst hu;rfl) (by omega) (by omega) (by simp;omega) (fun v2 w2 hO2 hF2=>?_);have hX2:=hF2.blk (b:=w.heap.size) (cs:=[.bool false,.bool false,.bool false,.bool false,.bool false,.bool false,.int .u64 0,.int .u64 0,.int .u64 k,.int .u64 0,.int .u64 0,.int .u64 0]) (T:=40) (fr:=(0,0)) (Blk.conv (by repeat (first|(with_reducible refine Blk.newAt ?_;(simp;done))|(with_reducible apply Blk.drew)|(with_reducible apply Blk.alloc))) (by first|rfl|(simp;done))) (by first|(simp [Value.ownBlock];done)|(simp [Value.ownBlock];omega));have xc2:=hX2.cells)
    | (refine wre 1 [(0,.free),(1,.look),(3,.free),(4,.look),(6,.free),(7,.look),(9,.free),(10,.look),(12,.free),(13,.look),(15,.free),(16,.look),(18,.free),(19,.look),(21,.free),(22,.look),(2,.grow),(5,.grow),(8,.grow),(11,.grow),(14,.grow),(17,.grow),(20,.grow),(23,.grow),(24,.make),(25,.free)] ?_)
    | (with_reducible refine wEI ?_;(first|(refine wEN ?_;skip)|(refine wEF rfl (fun K hK=>?_);go_simp)|(refine wEL rfl rfl (fun K hK=>?_);go_simp)|(refine wER rfl (fun K hK=>?_);go_simp)|(refine wEM rfl (fun K hK=>?_);go_simp;try refine ⟨_,_,⟨rfl,rfl⟩,?_⟩)|(refine wEG rfl (fun K hK=>?_);go_simp)|(refine wpE_actp rfl rfl (fun K hK=>?_);simp only [List.getElem_toArray,List.getElem_cons_succ,List.getElem_cons_zero];(first|((with_reducible refine op_bi .append ?_);  refine appOwn _ _ 77 rfl w.heap.size 108 .nilFunc 1 8 opt_slice opt_inf rfl (by omega) (.slice (some ⟨w.heap.size + 1 + 1 + 1 + 1 + 1 + 1 + 1 + 1 + 1,0,none⟩) 8 8) 8 (optVs (w.heap.size + 1)) rfl (own_built (Blk.conv (by repeat (first|(with_reducible refine Blk.newAt ?_;(simp;done))|(with_reducible apply Blk.drew)|(with_reducible apply Blk.alloc))) (by first|rfl|(simp;done))) (by omega) rfl (by omega)) _ 1 _ [codecF (w.heap.size + 1 + 1 + 1 + 1 + 1 + 1 + 1 + 1 + 1 + 1)] rfl rfl (newOne (by simp)) (by intro u hu;simp at hu;subst hu;rfl) (by omega) (by omega) (by simp;omega) (fun v2 w2 hO2 hF2=>?_);have hX2:=hF2.blk (b:=w.heap.size) (cs:=[.bool false,.bool false,.bool false,.bool false,.bool false,.bool false,.int .u64 0,.int .u64 0,.int .u64 k,.int .u64 0,.int .u64 0,.int .u64 0]) (T:=40) (fr:=(0,0)) (Blk.conv (by repeat (first|(with_reducible refine Blk.newAt ?_;(simp;done))|(with_reducible apply Blk.drew)|(with_reducible apply Blk.alloc))) (by first|rfl|(simp;done))) (by first|(simp [Value.ownBlock];done)|(simp [Value.ownBlock];omega));have xc2:=hX2.cells)))|(refine wEA rfl (fun K hK=>?_);go_simp))))
  obtain ⟨B,cap,cur,rfl,hB,hBb,_⟩:=hO2.2.resolve_left (by rintro ⟨_,h⟩;omega)
  have hr:=hO2.cells (g:=B) rfl
  have hFw : Fr [] w w2:=Fr.trans (S:=[]) (by repeat (first|exact Fr.refl|(with_reducible refine Fr.drew ?_)|(with_reducible refine Fr.alloc ?_))) hF2 (by simp [Value.ownBlock];omega)
  have hk8 : ∀ {b : Nat} {cs : List Value} {T : TypeId} {W : World},Fr (Value.slice (some ⟨w.heap.size + 1 + 1 + 1 + 1 + 1 + 1 + 1 + 1 + 1,0,none⟩) 8 8).ownBlock.toList W w2 → Blk W b cs T (0,0) → b < w.heap.size + 1 + 1 + 1 + 1 + 1 + 1 + 1 + 1 + 1 ∨ w.heap.size + 1 + 1 + 1 + 1 + 1 + 1 + 1 + 1 + 1 < b → Blk w2 b cs T (0,0):=fun hF hb hn=>hF.blk hb (by simp [Value.ownBlock];omega)
  have hlB : B < w2.heap.size:=(Array.getElem?_eq_some_iff.1 hBb).1
  have hs2:=hF2.size
  have HR:=Lib.hid hr
  have HF:=Lib.hid hF2
  go_ret
  refine ⟨B,w.heap.size + 1,w.heap.size + 1 + 1 + 1 + 1 + 1 + 1 + 1 + 1 + 1 + 1,cap,rfl,⟨hlB,?_,?_,?_,?_,?_,?_,?_,?_,?_,?_,?_,?_,?_,?_,?_,?_,?_,?_⟩,by omega,by omega,hB,hFw⟩
  all_goals first|exact HR.out 0 _ rfl|exact HR.out 1 _ rfl|exact HR.out 2 _ rfl|exact HR.out 3 _ rfl|exact HR.out 4 _ rfl|exact HR.out 5 _ rfl|exact HR.out 6 _ rfl|exact HR.out 7 _ rfl|exact HR.out 8 _ rfl|exact hk8 HF.out (Blk.conv (by repeat (first|(with_reducible refine Blk.newAt ?_;(simp;done))|(with_reducible apply Blk.drew)|(with_reducible apply Blk.alloc))) (by first|rfl|(simp;done))) (by omega)
theorem OptsC.rows {w : World} {B b c k : Nat} (h : OptsC w B b c k) : ∀ j,j < 9 → w.cell? ⟨B,j,none⟩ = (optVs b ++ [codecF c])[j]?:=by
  intro j hj
  match j,hj with
  | 0,_=>exact h.r0
  | 1,_=>exact h.r1
  | 2,_=>exact h.r2
  | 3,_=>exact h.r3
  | 4,_=>exact h.r4
  | 5,_=>exact h.r5
  | 6,_=>exact h.r6
  | 7,_=>exact h.r7
  | 8,_=>exact h.r8
abbrev optLK (k : Nat) : List Value:=[.int .u64 0,.int .u64 0,.int .u64 k,.bool false,.int .u64 2048,.bool false,.bool false,.bool false,.int .u64 9223372036854775807,.bool false,.bool false,.int .u64 33554432,.int .u64 8388608]
abbrev optL0K (k : Nat) : List Value:=[.int .u64 0,.int .u64 0,.int .u64 k,.bool false,.int .u64 0,.bool false,.bool false,.bool false,.int .u64 9223372036854775807,.bool false,.bool false,.int .u64 33554432,.int .u64 8388608]
theorem optFUseIndexCodec {w : World} {p c k : Nat} (hP : Blk w p optL0 101 (0,0)) (hC : Blk w c [.int .u64 k] 99 (0,0)) : Calls Tryz.prog 100 #[.pointer (some ⟨p,0,none⟩),.pointer (some ⟨c,0,none⟩)] w fun e w'=>e = .returned (.tuple #[]) ∧ Blk w' p (optL0K k) 101 (0,0) ∧ Fr [p] w w':=by
  have hc:=hC.cells
  have pc:=hP.cells
  have pf:=hP.free
  go_enter Tryz.func100,Tryz.ntmps100
  go_wp2
  go_end0
  exact ⟨rfl,Blk.conv (Blk.set hP) rfl,by exact frP⟩
set_option maxRecDepth 1000000 in
set_option maxHeartbeats 12800000 in
theorem applyOptionsK {w : World} {B b c k cap : Nat} (hk : 0 < k) (h : OptsC w B b c k) : Calls Tryz.prog 49 #[.slice (some ⟨B,0,none⟩) 9 cap] w fun e w'=>e = .returned (.agg (optLK k).toArray) ∧ Fr [] w w':=by
  have hki : ¬ (k : Int) = 0:=by omega
  have hO:=h
  have hOf:=fun (w' : World) (hf : Fr [] w w')=>h.fr hf (by simp) (by simp) (by simp)
  have hl:=h.lt
  have l8:=h.c7.lt
  have l9:=h.c8.lt
  have hr:=h.rows
  clear hk
  go_enter Tryz.func49,Tryz.ntmps49
  go_wp2_with (first
    | (with_reducible refine wp_loop_rounds 10 ?_);rw [rounds_succ]
    | (with_reducible rw [rounds_succ])
    | go_at_call 92;refine (optFZeroLengthSectionAsEOF (p:=w.heap.size + 1) (Blk.conv (Blk.newAt (by simp)) rfl) (hOf _ (by exact frP)).c0).mono ?_;rintro e w1 ⟨rfl,hP,hF⟩;replace hO:=h.fr (Fr.trans (S:=[w.heap.size + 1]) (by exact frP) hF (by simp)) (by simp;omega) (by simp;omega) (by simp;omega);clear hr;have hr:=hO.rows;have pc:=hP.cells;have pf:=hP.free;have hW:=Fr.trans (S:=[]) (S':=[w.heap.size + 1]) (w:=w) (by exact frP) hF (by simp);have hR:=hF.blk (b:=w.heap.size) (cs:=[.int .u64 0,.int .u64 0,.int .u64 0,.bool false,.int .u64 0,.bool false,.bool false,.bool false,.int .u64 0,.bool false,.bool false,.int .u64 0,.int .u64 0]) (Blk.alloc (Blk.newAt rfl)) (by simp)
    | go_at_call 93;refine (optFStoreIdentityCIDs (p:=w.heap.size + 1) hP hO.c1).mono ?_;rintro e w1 ⟨rfl,hP,hF⟩;replace hO:=hO.fr hF (by simp;omega) (by simp;omega) (by simp;omega);clear hr;have hr:=hO.rows;have pc:=hP.cells;have pf:=hP.free;replace hW : Fr [] w w1:=hW.trans hF (by simp);replace hR:=hF.blk hR (by simp)
    | go_at_call 94;refine (optFAllowDuplicatePuts (p:=w.heap.size + 1) hP hO.c2).mono ?_;rintro e w1 ⟨rfl,hP,hF⟩;replace hO:=hO.fr hF (by simp;omega) (by simp;omega) (by simp;omega);clear hr;have hr:=hO.rows;have pc:=hP.cells;have pf:=hP.free;replace hW : Fr [] w w1:=hW.trans hF (by simp);replace hR:=hF.blk hR (by simp)
    | go_at_call 95;refine (optFUseWholeCIDs (p:=w.heap.size + 1) hP hO.c3).mono ?_;rintro e w1 ⟨rfl,hP,hF⟩;replace hO:=hO.fr hF (by simp;omega) (by simp;omega) (by simp;omega);clear hr;have hr:=hO.rows;have pc:=hP.cells;have pf:=hP.free;replace hW : Fr [] w w1:=hW.trans hF (by simp);replace hR:=hF.blk hR (by simp)
    | go_at_call 96;refine (optFWriteAsCarV1 (p:=w.heap.size + 1) hP hO.c4).mono ?_;rintro e w1 ⟨rfl,hP,hF⟩;replace hO:=hO.fr hF (by simp;omega) (by simp;omega) (by simp;omega);clear hr;have hr:=hO.rows;have pc:=hP.cells;have pf:=hP.free;replace hW : Fr [] w w1:=hW.trans hF (by simp);replace hR:=hF.blk hR (by simp)
    | go_at_call 97;refine (optFWithTrustedCAR (p:=w.heap.size + 1) hP hO.c5).mono ?_;rintro e w1 ⟨rfl,hP,hF⟩;replace hO:=hO.fr hF (by simp;omega) (by simp;omega) (by simp;omega);clear hr;have hr:=hO.rows;have pc:=hP.cells;have pf:=hP.free;replace hW : Fr [] w w1:=hW.trans hF (by simp);replace hR:=hF.blk hR (by simp)
    | go_at_call 98;refine (optFUseDataPadding (p:=w.heap.size + 1) hP hO.c6).mono ?_;rintro e w1 ⟨rfl,hP,hF⟩;replace hO:=hO.fr hF (by simp;omega) (by simp;omega) (by simp;omega);clear hr;have hr:=hO.rows;have pc:=hP.cells;have pf:=hP.free;replace hW : Fr [] w w1:=hW.trans hF (by simp);replace hR:=hF.blk hR (by simp)
    | go_at_call 99;refine (optFUseIndexPadding (p:=w.heap.size + 1) hP hO.c7).mono ?_;rintro e w1 ⟨rfl,hP,hF⟩;replace hO:=hO.fr hF (by simp;omega) (by simp;omega) (by simp;omega);clear hr;have hr:=hO.rows;have pc:=hP.cells;have pf:=hP.free;replace hW : Fr [] w w1:=hW.trans hF (by simp);replace hR:=hF.blk hR (by simp)
    | go_at_call 100;refine (optFUseIndexCodec (p:=w.heap.size + 1) hP hO.c8).mono ?_;rintro e w1 ⟨rfl,hP,hF⟩;replace hO:=hO.fr hF (by simp;omega) (by simp;omega) (by simp;omega);clear hr;have hr:=hO.rows;have pc:=hP.cells;have pf:=hP.free;replace hW : Fr [] w w1:=hW.trans hF (by simp);replace hR:=hF.blk hR (by simp)
    | (with_reducible refine list_store 101 (fun K hK=>?_);  have hR1 : Blk _ w.heap.size [.int .u64 0,.int .u64 0,.int .u64 0,.bool false,.int .u64 0,.bool false,.bool false,.bool false,.int .u64 0,.bool false,.bool false,.int .u64 0,.int .u64 0] _ _:=Blk.setNe (a:=⟨w.heap.size + 1,4,none⟩) (v:=.int .u64 2048) (by simp) hR;refine storeRow _ _ _ rfl (w.heap.size) (optLK k) rfl rfl _ _ hR1 (by kernel_rfl) rfl rfl (fun w2 hR2 hF2=>?_);have rc:=hR2.cells))
  refine bodyPost_ret (v:=.agg (optLK k).toArray) (by simp [results,Tryz.results49,go_sem,rc]) rfl ⟨rfl,?_⟩
  exact Fr.trans (S:=[]) (S':=[w.heap.size]) (by repeat (first|exact hW|(refine Fr.setCell (.inr (by simp)) ?_))) hF2 (by simp)
end Go.Proofs.Wx

namespace Go.Proofs.Wx
open Go Go.RowKit
def ld2Rel (w : World) (r sb O k0 : Nat) (xs tail : List UInt8) (X p0 base : Nat) (bl : List BlkM) (k : Nat) (wr : World) (s17 s18 : Value) : Prop :=
  ∃ bl1 b2 bl2 v,bl = bl1 ++ b2 :: bl2 ∧ bl2.length = k ∧ s17 = .int .i64 (p0 + (secsB bl1).length : Nat) ∧ s18 = v ∧ wr.ownsRow base 120 2 v (entsAt p0 bl1).length (recC (entsAt p0 bl1)) ∧
    Rdr wr r sb xs (X + (p0 + (secsB bl1).length)) ∧ xs.drop (X + (p0 + (secsB bl1).length)) = secsB (b2 :: bl2) ++ tail ∧ Blk wr O (optLK k0) 101 (0,0) ∧ Fr [r] w wr
set_option maxRecDepth 1000000 in
set_option maxHeartbeats 12800000 in
theorem loadIndex2 {ea : Addr} {w : World} {r sb ix X z k0 fL : Nat} {T : TypeId} {ov : Value} {c : CarM} {xs rest rest2 tail : List UInt8} (h : Rdr w r sb xs 0) (hok : c.Ok) (hne : c.blocks ≠ []) (hG : Gl ea w)
    (hx0 : xs = pragmaB ++ rest) (hx1 : xs.drop 11 = hdrB 0 0 X c.bytes.length z ++ rest2) (hx2 : xs.drop X = c.bytes ++ tail) (hX : 51 ≤ X) (hX2 : X ≤ 1000) (hz : z < 1000000000)
    (hao : ∀ w',Fr [] w w' → Calls Tryz.prog 49 #[ov] w' fun e w''=>e = .returned (.agg (optLK k0).toArray) ∧ Fr [] w' w'')
    (hla : ∀ w', (nilAhead 615 T (.pointer (some ⟨ix, 0, none⟩)) "Load").run Tryz.prog w' = .ok (some false) w') (hlm : ∀ w', (method 615 T (.pointer (some ⟨ix, 0, none⟩)) "Load").run Tryz.prog w' = .ok (fL, .pointer (some ⟨ix, 0, none⟩)) w')
    (hle : ∀ w' a,(callFunc fL #[.pointer (some ⟨ix,0,none⟩),a]).run Tryz.prog w' = .ok (.enter fL #[.pointer (some ⟨ix,0,none⟩),a]) w')
    {R : World → Prop} (hLoad : ∀ v w',w'.ownsRow w.heap.size 120 2 v c.ents.length (recC c.ents) → Fr [r] w w' → Rdr w' r sb xs (X + c.bytes.length) →
      Calls Tryz.prog fL #[.pointer (some ⟨ix,0,none⟩),v] w' fun e w''=>e = .returned .nilIface ∧ R w'') :
    Calls Tryz.prog 51 #[.iface T (.pointer (some ⟨ix,0,none⟩)),.iface 74 (.pointer (some ⟨r,0,none⟩)),ov] w fun e w''=>e = .returned .nilIface ∧ R w'':=by
  have hlt:=h.lt
  have hge:=h.ge
  have hlenc:=hok.length
  have hlen:=headerB_length hok.roots hok.root
  have hrp:=fun (w' : World) (hR : Rdr w' r sb xs 0) (hG : Gl ea w')=>readPragma hR hx0 hG
  have hhd:=fun (w' : World) (q : Nat) (hR : Rdr w' r sb xs 11) (hQ : Blk w' q [.int .u64 0,.int .u64 0,.int .u64 0,.int .u64 0,.int .u64 0] tHD (0,0)) (h1 : q ≠ r) (h2 : q ≠ sb)=>headerRead hR hx1 (by omega) (by omega) hX (by omega) (by omega) (by omega) hz hQ h1 h2
  have hrh:=fun (w' : World) (hR : Rdr w' r sb xs X) (hG : Gl ea w')=>readHeader hR (l:=c.roots) (rest:=secsB c.blocks ++ tail) (by rw [hx2];simp [CarM.bytes]) hG hok.roots hok.root
  have hmk:=make_rec
  have hxl : X + c.bytes.length ≤ xs.length:=by
    have:=congrArg List.length hx2
    simp at this;omega
  have hxt:=hx2
  obtain ⟨N,hN⟩ : ∃ N,Hid (N = c.bytes.length):=⟨_,rfl⟩
  have hN1:=hN.out
  rw [← hN1] at hhd hxl hlenc hLoad
  have z1 : ¬ (X : Int) < 40:=by omega
  have z2 : ¬ (N : Int) < 1:=by omega
  have z3 : ¬ (N : Int) = 0:=by omega
  have HH:=Lib.hid (And.intro hhd (And.intro hx2 (And.intro hx0 hx1)))
  have hw1:=w64_nat (x:=X) (by omega)
  have hw2:=w64_nat (x:=N) (by omega)
  clear hhd hx0 hx1 hx2 hxt hX hN1
  go_enter Tryz.func51,Tryz.ntmps51
  go_wp2_with (first
    | go_at_call 49;refine (hao _ Fr.refl).mono ?_;rintro e w1 ⟨rfl,hF1⟩
    | go_at_call 87;refine (toByteReadSeeker _ _).mono ?_;rintro e w2 ⟨rfl,rfl⟩)
  have hW1 : Fr [r] w w1:=hF1.mono (by simp)
  have hs1:=hF1.size
  have hO2 : Blk (w1.alloc (.cells (optLK k0).toArray 101)) w1.heap.size (optLK k0) 101 (0,0):=Blk.new
  have hF2 : Fr [] w1 (w1.alloc (.cells (optLK k0).toArray 101)):=Fr.alloc Fr.refl
  generalize w1.alloc (.cells (optLK k0).toArray 101) = w2 at *
  have hrO : r ≠ w1.heap.size ∧ sb ≠ w1.heap.size ∧ w.heap.size ≤ w1.heap.size ∧ 28 ≤ w1.heap.size:=by have:=hG.size;omega
  generalize w1.heap.size = O at *
  have hW2 : Fr [r] w w2:=hW1.trans hF2 (by simp)
  have hR2:=h.fr (hF1.trans hF2 (by simp) : Fr [] w w2) (by simp) (by simp)
  refine (hrp _ hR2 (hG.fr hW2 (by simp;omega))).mono ?_
  rintro e w3 ⟨p,hv,rfl,hp,hH3,hR3,hF3⟩
  have hO3:=hF3.blk hO2 (by simp [Ne.symm hrO.1])
  have hW3:=hW2.trans hF3 (by simp)
  have hH3c:=hH3.cells
  have hol:=hO2.lt
  have hol3:=hO3.lt
  have hpO : p ≠ O:=by omega
  have hsz3:=hW3.size
  clear hao hF1 hF2 hF3 hW1 hrp h hR2 hO2
  obtain ⟨J0,hJ0⟩ : ∃ J0,J0 = X + (headerB c.roots).length:=⟨_,rfl⟩
  have hJs : (J0 : Int) - (X : Int) = ((headerB c.roots).length : Int):=by omega
  have hJb : (J0 : Int) ≤ 1000000:=by omega
  have HJ:=Lib.hid hJ0
  rw [← hJ0] at hrh
  clear hJ0
  generalize hP0 : (headerB c.roots).length = p0 at *
  have HP0:=Lib.hid hP0
  clear hP0
  go_wp2_with (first
    | go_at_call 77;(with_reducible refine (HH.out.1 _ w3.heap.size (hR3.fr (S:=[]) (Fr.alloc Fr.refl) (by simp) (by simp)) (Blk.new (cs:=[_,_,_,_,_])) (by omega) (by omega)).mono ?_);rintro e w4 ⟨rfl,hR4,hQ4,hF4⟩;have qc4:=hQ4.cells;have hF34 : Fr [r] w3 w4:=Fr.trans (S:=[r]) (S':=[r,w3.heap.size]) (Fr.alloc Fr.refl) hF4 (by intro k hk hl;simp at hk;rcases hk with rfl|rfl <;> simp_all);have oc4:=(hF34.blk hO3 (by simp;omega)).cells;have hp4:=hF34.size;have H4:=Lib.hid (And.intro hR4 (And.intro hQ4 (And.intro hF34 (hF34.blk hO3 (by simp;omega)))));clear hR4 hQ4 hF4 hF34 hH3c
    | go_at_call 256;refine (seek_any H4.out.1 X 0 X (by omega) (.inl ⟨rfl,rfl⟩)).mono ?_;rintro e w5 ⟨rfl,hR5,hF5⟩;clear qc4 oc4;have hQ5:=hF5.blk H4.out.2.1 (by simp;omega);have hO5:=hF5.blk H4.out.2.2.2 (by simp;omega);have qc5:=hQ5.cells;have oc5:=hO5.cells;have hF35 : Fr [r] w3 w5:=H4.out.2.2.1.trans hF5 (by simp);have H5:=Lib.hid (And.intro hR5 (And.intro hF35 hO5));clear hR5 hF5 hQ5 hF35 hO5 H4
    | go_at_call 88;(with_reducible refine (hrh _ H5.out.1 (hG.fr (hW3.trans H5.out.2.1 (by simp)) (by simp;omega))).mono ?_);rintro e w6 ⟨p6,hv6,rfl,hp6,hH6,hR6,hF6⟩;have hc6:=hH6.cells;have hO6:=hF6.blk H5.out.2.2 (by simp;omega);have oc6:=hO6.cells;have hF36 : Fr [r] w3 w6:=H5.out.2.1.trans hF6 (by simp);have H6:=Lib.hid (And.intro hR6 (And.intro hF36 hO6));clear qc5 oc5 hH6 hR6 hF6 hF36 hO6
    | go_at_call 256;refine (seek_any H6.out.1 0 1 J0 (by omega) (.inr (.inl ⟨rfl,by omega⟩))).mono ?_;rintro e w7 ⟨rfl,hR7,hF7⟩;clear hc6 oc6;have hO7:=hF7.blk H6.out.2.2 (by simp;omega);have oc7:=hO7.cells;have H7:=Lib.hid (And.intro hR7 (And.intro (H6.out.2.1.trans hF7 (S:=[r]) (by simp)) hO7));clear hR7 hF7 hO7)
  obtain ⟨hR7,hF37,hO7⟩:=H7.out
  have hW7:=hW3.trans hF37 (by simp)
  have hs7:=hO7.lt
  have hJ1:=HJ.out
  rw [hJ1] at hR7
  have hx2:=HH.out.2.1
  have hsec : xs.drop (X + p0) = secsB c.blocks ++ tail:=by
    rw [← List.drop_drop,hx2,← HP0.out];simp [CarM.bytes]
  obtain ⟨b0,bl0,hbl0⟩ : ∃ b0 bl0,c.blocks = b0 :: bl0:=by
    cases hb : c.blocks with
    | nil=>exact absurd hb hne
    | cons x y=>exact ⟨x,y,rfl⟩
  have hNe : N = p0 + (secsB c.blocks).length:=by rw [hN.out,← HP0.out];simp [CarM.bytes]
  have hents : entsAt p0 c.blocks = c.ents:=by rw [← HP0.out];rfl
  have HN:=Lib.hid (And.intro hNe (And.intro hents (And.intro hLoad hxl)))
  have Hw:=Lib.hid (And.intro hw1 hw2)
  clear hNe hents hw1 hw2 hx2 oc7 H7 H6 H5 HH hrh hJs hJb hJ1 hLoad hxl
  go_loopg [17,18] (bl0.length) (fun k s17 s18 wr=>ld2Rel w r sb O k0 xs tail X p0 (O + 1) c.blocks k wr s17 s18)
  case atStart =>
    refine ⟨[],b0,bl0,.slice (some ⟨w7.heap.size,0,none⟩) 0 0,hbl0,rfl,by simp [secsB],rfl,?_,?_,by rw [← hbl0];simpa [secsB] using hsec,?_,?_⟩
    · exact own_made (by omega) rfl
    · exact hR7.fr (S:=[]) (by exact frP) (by simp) (by simp)
    · exact blkP
    · exact Fr.alloc hW7
  case round =>
    obtain ⟨bl1,b2,bl2,v,hbl,hk,rfl,rfl,hOw,hRr,hdr,hOr,hFr⟩:=hrel
    subst hk
    have or:=hOr.cells
    have hszr:=hFr.size
    have hol':=hOr.lt
    clear hR7 hF37 hO7 hW7 hs7 hsec hbl0 hR3 hH3 hO3 hW3
    have hbm : b2 ∈ c.blocks:=by rw [hbl];simp
    have hcok:=hok.cid b2 hbm
    have hdat:=hok.data b2 hbm
    have hil:=inner_length hcok hdat
    have hcl:=hcok.le
    have hp0:=hlen.1
    obtain ⟨P,hP⟩ : ∃ P,P = p0 + (secsB bl1).length:=⟨_,rfl⟩
    obtain ⟨Q,hQ⟩ : ∃ Q,Q = p0 + (secsB (bl1 ++ [b2])).length:=⟨_,rfl⟩
    have hNQ : N = Q + (secsB bl2).length:=by
      rw [HN.out.1,hbl,hQ,show bl1 ++ b2 :: bl2 = (bl1 ++ [b2]) ++ bl2 by simp];simp [secsB];omega
    have hPQ : P + (secB b2).length = Q:=by rw [hP,hQ];simp [secsB];omega
    rw [← hP] at hRr hdr ⊢
    have hd1 : xs.drop (X + P) = Lib.uvarint b2.inner.length ++ (b2.inner ++ (secsB bl2 ++ tail)):=by rw [hdr];simp [secsB,secB]
    have hd2 : xs.drop (X + P + (Lib.uvarint b2.inner.length).length) = b2.cid.bytes ++ (b2.data ++ (secsB bl2 ++ tail)):=by rw [← List.drop_drop,hd1];simp [BlkM.inner]
    have hd3 : xs.drop (X + Q) = secsB bl2 ++ tail:=by rw [← hPQ,← Nat.add_assoc,← List.drop_drop,hdr];simp [secsB]
    obtain ⟨J,hJ⟩ : ∃ J,J = X + Q:=⟨_,rfl⟩
    have hin : b2.inner.length = b2.cid.bytes.length + b2.data.length:=by simp [BlkM.inner]
    have hsl : X + P + (Lib.uvarint b2.inner.length).length + b2.cid.bytes.length + b2.data.length = J:=by rw [hJ,← hPQ];simp [secB,BlkM.inner];omega
    have hu:=readUvarint (rdSrc r sb xs) hRr (n:=b2.inner.length) (by omega) hd1
    have hcf:=fun (w' : World) (hR : Rdr w' r sb xs (X + P + (Lib.uvarint b2.inner.length).length))=>cidFromReader hR hd2 hcok
    have hpf : ∀ w',Calls Tryz.prog 91 #[cidV b2.cid] w' fun e w''=>e = .returned (.agg #[.int .u64 b2.cid.v,.int .u64 b2.cid.codec,.int .u64 b2.cid.code,.int .i64 b2.cid.dig.length]) ∧ Fr [] w' w'':=fun w'=>cidPrefix hcok
    have hx9:=HN.out.2.2.2
    have hsk : ∀ (w' : World),Rdr w' r sb xs (X + P + (Lib.uvarint b2.inner.length).length + b2.cid.bytes.length) → Calls Tryz.prog 256 #[.pointer (some ⟨r,0,none⟩),.int .i64 ((b2.cid.bytes.length : Int) + b2.data.length - b2.cid.bytes.length),.int .i64 1] w' fun e w''=>e = .returned (.tuple #[.int .i64 J,.nilIface]) ∧ Rdr w'' r sb xs J ∧ Fr [r] w' w'':=fun w' hR=>by
      rw [show ((b2.cid.bytes.length : Int) + b2.data.length - b2.cid.bytes.length) = ((b2.data.length : Nat) : Int) by omega]
      exact seek_any hR b2.data.length 1 J (by omega) (.inr (.inl ⟨rfl,by omega⟩))
    have hen50 : (entsAt p0 bl1).length ≤ bl1.length:=entsAt_length _ _
    have hbl50 : bl1.length + bl2.length + 1 ≤ 50:=by have:=hok.blocks;rw [hbl] at this;simp at this;omega
    have hJQ : (J : Int) - (X : Int) = (Q : Int):=by omega
    have hJb : (J : Int) ≤ 3000000:=by omega
    have hQb : (Q : Int) ≤ 2000000:=by omega
    have hPb : (P : Int) ≤ 2000000:=by omega
    have hent:=entsAt_snoc p0 bl1 b2
    rw [← hP] at hent
    have H1:=Lib.hid (And.intro hd3 (And.intro hbl (And.intro hent (And.intro hP (And.intro hQ (And.intro hJ hNQ))))))
    have HQN : Hid (bl2 = [] → N = Q):=fun e=>by rw [hNQ,e];simp [secsB]
    have HQL : Hid (bl2 ≠ [] → Q < N):=fun e=>by
      cases hb : bl2 with
      | nil=>exact absurd hb e
      | cons x y =>
        have hxm : x ∈ c.blocks:=by rw [hbl,hb];simp
        have:=secB_length (hok.cid x hxm) (hok.data x hxm)
        rw [hNQ,hb];simp [secsB];omega
    clear hd1 hd2 hd3 hbl hent hP hQ hJ hNQ hPQ hsl hdr hx9
    have hOld:=own_slice hOw
    have hGl:=hG.size
    by_cases hc0 : b2.cid.code = 0
    · rw [hc0] at hpf
      by_cases hbn : bl2 = []
      · have hz : (N : Int) ≤ (Q : Int):=by have:=HQN.out hbn;omega
        go_wp2_with (first
          | go_at_call 89;refine hu.mono ?_;rintro e w5 ⟨rfl,hR5,hF5⟩
          | go_at_call 90;refine (hcf _ hR5).mono ?_;rintro e w6 ⟨rfl,hR6,hF6⟩;have hO6:=(hF6.blk (hF5.blk hOr (by simp [Ne.symm hrO.1])) (by simp [Ne.symm hrO.1]));have oc6:=hO6.cells;have ol6:=hO6.lt;have hOw6:=own_fr (own_fr hOw hF5 (by simp;omega)) hF6 (by simp;omega)
          | go_at_call 91;refine (hpf _).mono ?_;rintro e w7 ⟨rfl,hF7⟩;have hF67 : Fr [] w6 w7:=Fr.trans (S:=[]) (by exact frP) hF7 (by simp);have hO7:=hF67.blk hO6 (by simp);have oc7:=hO7.cells;have hR7:=hR6.fr hF67 (by simp) (by simp);have hOw7:=own_fr hOw6 hF67 (by simp);clear oc6
          | go_at_call 256;refine (hsk _ hR7).mono ?_;rintro e w8 ⟨rfl,hR8,hF8⟩;have hO8:=hF8.blk hO7 (by simp [Ne.symm hrO.1]);have hOw8:=own_fr hOw7 hF8 (by simp;omega))
        obtain ⟨hd3,hbl,hent,hP,hQ,hJ,hNQ⟩:=H1.out
        have hcb : c.blocks = bl1 ++ [b2]:=by rw [hbl,hbn]
        have hce : entsAt p0 bl1 = c.ents:=by rw [← HN.out.2.1,hcb,hent,if_pos hc0,List.append_nil]
        rw [hce] at hOw8
        have hJN : J = X + N:=by have:=HQN.out hbn;omega
        have hl9:=HN.out.2.2.1 _ _ (own_mono hOw8 (by omega)) ((((hFr.trans hF5 (by simp)).trans hF6 (by simp)).trans hF67 (by simp)).trans hF8 (by simp)) (hJN ▸ hR8)
        refine hl9.mono ?_
        rintro e w10 ⟨rfl,hRR⟩
        go_wp2
        go_ret
        exact ⟨rfl,hRR⟩
      · have hz : (Q : Int) < (N : Int):=by have:=HQL.out hbn;omega
        obtain ⟨b3,bl3,rfl⟩ : ∃ b3 bl3,bl2 = b3 :: bl3:=by
          cases bl2 with
          | nil=>exact absurd rfl hbn
          | cons x y=>exact ⟨x,y,rfl⟩
        go_wp2_with (first
          | go_at_call 89;refine hu.mono ?_;rintro e w5 ⟨rfl,hR5,hF5⟩
          | go_at_call 90;refine (hcf _ hR5).mono ?_;rintro e w6 ⟨rfl,hR6,hF6⟩;have hO6:=(hF6.blk (hF5.blk hOr (by simp [Ne.symm hrO.1])) (by simp [Ne.symm hrO.1]));have oc6:=hO6.cells;have ol6:=hO6.lt;have hOw6:=own_fr (own_fr hOw hF5 (by simp;omega)) hF6 (by simp;omega)
          | go_at_call 91;refine (hpf _).mono ?_;rintro e w7 ⟨rfl,hF7⟩;have hF67 : Fr [] w6 w7:=Fr.trans (S:=[]) (by exact frP) hF7 (by simp);have hO7:=hF67.blk hO6 (by simp);have oc7:=hO7.cells;have hR7:=hR6.fr hF67 (by simp) (by simp);have hOw7:=own_fr hOw6 hF67 (by simp);clear oc6
          | go_at_call 256;refine (hsk _ hR7).mono ?_;rintro e w8 ⟨rfl,hR8,hF8⟩;have hO8:=hF8.blk hO7 (by simp [Ne.symm hrO.1]);have hOw8:=own_fr hOw7 hF8 (by simp;omega))
        go_roundg bl3.length
        case rel =>
          obtain ⟨hd3,hbl,hent,hP,hQ,hJ,hNQ⟩:=H1.out
          refine ⟨bl1 ++ [b2],b3,bl3,_,by rw [hbl];simp,rfl,by rw [hQ],rfl,?_,by rw [← hQ,← hJ];exact hR8,by rw [← hQ];exact hd3,hO8,(((hFr.trans hF5 (by simp)).trans hF6 (by simp)).trans hF67 (by simp)).trans hF8 (by simp)⟩
          rw [hent,if_pos hc0,List.append_nil];exact hOw8
        case measure=>simp
    · obtain ⟨a18,c18,rfl⟩:=hOld
      have hci : ¬ ((b2.cid.code : Int) = 0):=by omega
      by_cases hbn : bl2 = []
      · have hz : (N : Int) ≤ (Q : Int):=by have:=HQN.out hbn;omega
        go_wp2_with (first
          | go_at_call 89;refine hu.mono ?_;rintro e w5 ⟨rfl,hR5,hF5⟩
          | go_at_call 90;refine (hcf _ hR5).mono ?_;rintro e w6 ⟨rfl,hR6,hF6⟩;have hO6:=(hF6.blk (hF5.blk hOr (by simp [Ne.symm hrO.1])) (by simp [Ne.symm hrO.1]));have oc6:=hO6.cells;have ol6:=hO6.lt;have hOw6:=own_fr (own_fr hOw hF5 (by simp;omega)) hF6 (by simp;omega)
          | go_at_call 91;refine (hpf _).mono ?_;rintro e w7 ⟨rfl,hF7⟩;have hC7:=hF7.blk (b:=w6.heap.size) (Blk.newAt rfl) (by simp);have cc7:=hC7.cells;have hF67 : Fr [] w6 w7:=Fr.trans (S:=[]) (by exact frP) hF7 (by simp);have hO7:=hF67.blk hO6 (by simp);have oc7:=hO7.cells;have ol7:=hO7.lt;have hR7:=hR6.fr hF67 (by simp) (by simp);have hOw7:=own_fr hOw6 hF67 (by simp);clear oc6
          | ((with_reducible refine list_bi .append (fun K hK=>?_));  refine appOwn _ _ 114 rfl (O + 1) 120 (.agg #[.string ⟨#[]⟩,.int .u64 0]) 2 24 rec_slice rec_info rfl (by omega) _ _ _ rfl (own_fr (S:=[]) hOw7 (by exact frP) (by simp)) _ 1 _ [.string ⟨b2.cid.bytes.toArray⟩,.int .u64 (P : Nat)] rfl rfl (newTwo (by simp)) (by intro u hu;simp at hu;rcases hu with rfl|rfl <;> rfl) (by omega) (by omega) (by simp;omega) (fun v2 w9 hOw9 hF9=>?_);have hF79:=Fr.trans (w:=w7) (S:=(Value.slice a18 (entsAt p0 bl1).length c18).ownBlock.toList) (by exact frP) hF9 (fun k hk _=>hk);have hnb:=own_ge hOw7;have hO9:=hF79.blk hO7 (fun hm=>by have:=hnb _ hm;omega);have oc9:=hO9.cells;have hR9:=hR7.fr hF79 (fun hm=>by have:=hnb _ hm;omega) (fun hm=>by have:=hnb _ hm;omega);clear oc7)
          | go_at_call 256;refine (hsk _ hR9).mono ?_;rintro e w8 ⟨rfl,hR8,hF8⟩;have hO8:=hF8.blk hO9 (by simp [Ne.symm hrO.1]);have hOw8:=own_fr hOw9 hF8 (by simp;omega))
        have hFw : Fr [r] w w9:=((((hFr.trans hF5 (by simp)).trans hF6 (by simp)).trans hF67 (by simp)).trans hF79 (fun k hk hkl=>by have:=hnb k hk;omega))
        obtain ⟨hd3,hbl,hent,hP,hQ,hJ,hNQ⟩:=H1.out
        have hcb : c.blocks = bl1 ++ [b2]:=by rw [hbl,hbn]
        have hce : entsAt p0 bl1 ++ [(b2.cid,P)] = c.ents:=by rw [← HN.out.2.1,hcb,hent,if_neg hc0]
        have hcl1 : (entsAt p0 bl1).length + 1 = c.ents.length:=by rw [← hce];simp
        have hcr : recC (entsAt p0 bl1) ++ [.string ⟨b2.cid.bytes.toArray⟩,.int .u64 (P : Nat)] = recC c.ents:=by rw [← hce,recC_append];simp [recC]
        rw [hcl1,hcr] at hOw8
        have hF56:=hFw
        have hJN : J = X + N:=by have:=HQN.out hbn;omega
        have hl9:=HN.out.2.2.1 _ _ (own_mono hOw8 (by omega)) (hFw.trans hF8 (by simp)) (hJN ▸ hR8)
        refine hl9.mono ?_
        rintro e w10 ⟨rfl,hRR⟩
        go_wp2
        go_ret
        exact ⟨rfl,hRR⟩
      · have hz : (Q : Int) < (N : Int):=by have:=HQL.out hbn;omega
        obtain ⟨b3,bl3,rfl⟩ : ∃ b3 bl3,bl2 = b3 :: bl3:=by
          cases bl2 with
          | nil=>exact absurd rfl hbn
          | cons x y=>exact ⟨x,y,rfl⟩
        go_wp2_with (first
          | go_at_call 89;refine hu.mono ?_;rintro e w5 ⟨rfl,hR5,hF5⟩
          | go_at_call 90;refine (hcf _ hR5).mono ?_;rintro e w6 ⟨rfl,hR6,hF6⟩;have hO6:=(hF6.blk (hF5.blk hOr (by simp [Ne.symm hrO.1])) (by simp [Ne.symm hrO.1]));have oc6:=hO6.cells;have ol6:=hO6.lt;have hOw6:=own_fr (own_fr hOw hF5 (by simp;omega)) hF6 (by simp;omega)
          | go_at_call 91;refine (hpf _).mono ?_;rintro e w7 ⟨rfl,hF7⟩;have hC7:=hF7.blk (b:=w6.heap.size) (Blk.newAt rfl) (by simp);have cc7:=hC7.cells;have hF67 : Fr [] w6 w7:=Fr.trans (S:=[]) (by exact frP) hF7 (by simp);have hO7:=hF67.blk hO6 (by simp);have oc7:=hO7.cells;have ol7:=hO7.lt;have hR7:=hR6.fr hF67 (by simp) (by simp);have hOw7:=own_fr hOw6 hF67 (by simp);clear oc6
          | ((with_reducible refine list_bi .append (fun K hK=>?_));  refine appOwn _ _ 114 rfl (O + 1) 120 (.agg #[.string ⟨#[]⟩,.int .u64 0]) 2 24 rec_slice rec_info rfl (by omega) _ _ _ rfl (own_fr (S:=[]) hOw7 (by exact frP) (by simp)) _ 1 _ [.string ⟨b2.cid.bytes.toArray⟩,.int .u64 (P : Nat)] rfl rfl (newTwo (by simp)) (by intro u hu;simp at hu;rcases hu with rfl|rfl <;> rfl) (by omega) (by omega) (by simp;omega) (fun v2 w9 hOw9 hF9=>?_);have hF79:=Fr.trans (w:=w7) (S:=(Value.slice a18 (entsAt p0 bl1).length c18).ownBlock.toList) (by exact frP) hF9 (fun k hk _=>hk);have hnb:=own_ge hOw7;have hO9:=hF79.blk hO7 (fun hm=>by have:=hnb _ hm;omega);have oc9:=hO9.cells;have hR9:=hR7.fr hF79 (fun hm=>by have:=hnb _ hm;omega) (fun hm=>by have:=hnb _ hm;omega);clear oc7)
          | go_at_call 256;refine (hsk _ hR9).mono ?_;rintro e w8 ⟨rfl,hR8,hF8⟩;have hO8:=hF8.blk hO9 (by simp [Ne.symm hrO.1]);have hOw8:=own_fr hOw9 hF8 (by simp;omega))
        have hFw : Fr [r] w w9:=((((hFr.trans hF5 (by simp)).trans hF6 (by simp)).trans hF67 (by simp)).trans hF79 (fun k hk hkl=>by have:=hnb k hk;omega))
        go_roundg bl3.length
        case rel =>
          obtain ⟨hd3,hbl,hent,hP,hQ,hJ,hNQ⟩:=H1.out
          refine ⟨bl1 ++ [b2],b3,bl3,v2,by rw [hbl];simp,rfl,by rw [hQ],rfl,?_,by rw [← hQ,← hJ];exact hR8,by rw [← hQ];exact hd3,hO8,hFw.trans hF8 (by simp)⟩
          rw [hent,if_neg hc0,List.length_append,recC_append]
          exact hOw8
        case measure=>simp
end Go.Proofs.Wx
