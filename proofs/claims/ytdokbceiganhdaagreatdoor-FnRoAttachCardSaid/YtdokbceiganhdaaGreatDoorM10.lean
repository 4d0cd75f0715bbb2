import Derived.Test.YtdokbceiganhdaaGreatDoorM4
import Derived.Test.YtdokbceiganhdaaGreatDoorM9
import Derived.Lib.AppendZerosOnto
set_option maxRecDepth 100000
set_option maxHeartbeats 1000000
set_option linter.unusedVariables false
set_option linter.unusedSimpArgs false
set_option linter.deprecated false
set_option linter.all false
set_option linter.unusedSectionVars false
namespace Go.Proofs.Wx
open Go Go.RowKit
theorem optZeroLengthSectionAsEOF {w : World} : Calls Tryz.prog 52 #[.bool false] w fun e w'=>e = .returned (.func (.func 92) #[] #[.pointer (some ⟨w.heap.size,0,none⟩)]) ∧ w' = w.alloc (.cells #[.bool false] 4):=by
  go_enter Tryz.func52,Tryz.ntmps52
  go_wp2
  go_ret
  exact ⟨rfl,rfl⟩
theorem optStoreIdentityCIDs {w : World} : Calls Tryz.prog 53 #[.bool false] w fun e w'=>e = .returned (.func (.func 93) #[] #[.pointer (some ⟨w.heap.size,0,none⟩)]) ∧ w' = w.alloc (.cells #[.bool false] 4):=by
  go_enter Tryz.func53,Tryz.ntmps53
  go_wp2
  go_ret
  exact ⟨rfl,rfl⟩
theorem optAllowDuplicatePuts {w : World} : Calls Tryz.prog 54 #[.bool false] w fun e w'=>e = .returned (.func (.func 94) #[] #[.pointer (some ⟨w.heap.size,0,none⟩)]) ∧ w' = w.alloc (.cells #[.bool false] 4):=by
  go_enter Tryz.func54,Tryz.ntmps54
  go_wp2
  go_ret
  exact ⟨rfl,rfl⟩
theorem optUseWholeCIDs {w : World} : Calls Tryz.prog 55 #[.bool false] w fun e w'=>e = .returned (.func (.func 95) #[] #[.pointer (some ⟨w.heap.size,0,none⟩)]) ∧ w' = w.alloc (.cells #[.bool false] 4):=by
  go_enter Tryz.func55,Tryz.ntmps55
  go_wp2
  go_ret
  exact ⟨rfl,rfl⟩
theorem optWriteAsCarV1 {w : World} : Calls Tryz.prog 56 #[.bool false] w fun e w'=>e = .returned (.func (.func 96) #[] #[.pointer (some ⟨w.heap.size,0,none⟩)]) ∧ w' = w.alloc (.cells #[.bool false] 4):=by
  go_enter Tryz.func56,Tryz.ntmps56
  go_wp2
  go_ret
  exact ⟨rfl,rfl⟩
theorem optWithTrustedCAR {w : World} : Calls Tryz.prog 57 #[.bool false] w fun e w'=>e = .returned (.func (.func 97) #[] #[.pointer (some ⟨w.heap.size,0,none⟩)]) ∧ w' = w.alloc (.cells #[.bool false] 4):=by
  go_enter Tryz.func57,Tryz.ntmps57
  go_wp2
  go_ret
  exact ⟨rfl,rfl⟩
theorem optUseDataPadding {w : World} : Calls Tryz.prog 58 #[.int .u64 0] w fun e w'=>e = .returned (.func (.func 98) #[] #[.pointer (some ⟨w.heap.size,0,none⟩)]) ∧ w' = w.alloc (.cells #[.int .u64 0] 26):=by
  go_enter Tryz.func58,Tryz.ntmps58
  go_wp2
  go_ret
  exact ⟨rfl,rfl⟩
theorem optUseIndexPadding {w : World} : Calls Tryz.prog 59 #[.int .u64 0] w fun e w'=>e = .returned (.func (.func 99) #[] #[.pointer (some ⟨w.heap.size,0,none⟩)]) ∧ w' = w.alloc (.cells #[.int .u64 0] 26):=by
  go_enter Tryz.func59,Tryz.ntmps59
  go_wp2
  go_ret
  exact ⟨rfl,rfl⟩
/-- The eight options of a call that asks for nothing: closures over their settings, in a slice. -/
structure OptsAt (w : World) (B b : Nat) : Prop where
  list : Blk w B [.func (.func 92) #[] #[.pointer (some ⟨b + 0,0,none⟩)],.func (.func 93) #[] #[.pointer (some ⟨b + 1,0,none⟩)],.func (.func 94) #[] #[.pointer (some ⟨b + 2,0,none⟩)],.func (.func 95) #[] #[.pointer (some ⟨b + 3,0,none⟩)],.func (.func 96) #[] #[.pointer (some ⟨b + 4,0,none⟩)],.func (.func 97) #[] #[.pointer (some ⟨b + 5,0,none⟩)],.func (.func 98) #[] #[.pointer (some ⟨b + 6,0,none⟩)],.func (.func 99) #[] #[.pointer (some ⟨b + 7,0,none⟩)]] 108 (0,0)
  c0 : Blk w (b + 0) [.bool false] 4 (0,0)
  c1 : Blk w (b + 1) [.bool false] 4 (0,0)
  c2 : Blk w (b + 2) [.bool false] 4 (0,0)
  c3 : Blk w (b + 3) [.bool false] 4 (0,0)
  c4 : Blk w (b + 4) [.bool false] 4 (0,0)
  c5 : Blk w (b + 5) [.bool false] 4 (0,0)
  c6 : Blk w (b + 6) [.int .u64 0] 26 (0,0)
  c7 : Blk w (b + 7) [.int .u64 0] 26 (0,0)
theorem OptsAt.fr {w w' : World} {B b : Nat} {S : List Nat} (h : OptsAt w B b) (hf : Fr S w w') (hB : B ∉ S) (hb : ∀ k ∈ S,k < b ∨ b + 8 ≤ k) : OptsAt w' B b:=by
  obtain ⟨h0,h1,h2,h3,h4,h5,h6,h7,h8⟩:=h
  have o : ∀ i,i < 8 → b + i ∉ S:=fun i hi hm=>by have:=hb _ hm;omega
  exact ⟨hf.blk h0 hB,hf.blk h1 (o 0 (by omega)),hf.blk h2 (o 1 (by omega)),hf.blk h3 (o 2 (by omega)),hf.blk h4 (o 3 (by omega)),hf.blk h5 (o 4 (by omega)),hf.blk h6 (o 5 (by omega)),hf.blk h7 (o 6 (by omega)),hf.blk h8 (o 7 (by omega))⟩
abbrev zeroOpts : Value:=.agg #[.bool false,.bool false,.bool false,.bool false,.bool false,.bool false,.int .u64 0,.int .u64 0,.int .u64 0,.int .u64 0,.int .u64 0,.int .u64 0]
theorem options0 {w : World} : Calls Tryz.prog 34 #[zeroOpts] w fun e w'=>∃ B b,e = .returned (.slice (some ⟨B,0,none⟩) 8 8) ∧ OptsAt w' B b ∧ w.heap.size ≤ b ∧ b + 8 ≤ B ∧ Fr [] w w':=by
  go_enter Tryz.func34,Tryz.ntmps34
  go_wp2_with (first
    | go_at_call 52;refine optZeroLengthSectionAsEOF.mono ?_;rintro e w1 ⟨rfl,rfl⟩;(try go_simp);refine hK _ _ (World.Ext.alloc _ _) ?_
    | go_at_call 53;refine optStoreIdentityCIDs.mono ?_;rintro e w1 ⟨rfl,rfl⟩;(try go_simp);refine hK _ _ (World.Ext.alloc _ _) ?_
    | go_at_call 54;refine optAllowDuplicatePuts.mono ?_;rintro e w1 ⟨rfl,rfl⟩;(try go_simp);refine hK _ _ (World.Ext.alloc _ _) ?_
    | go_at_call 55;refine optUseWholeCIDs.mono ?_;rintro e w1 ⟨rfl,rfl⟩;(try go_simp);refine hK _ _ (World.Ext.alloc _ _) ?_
    | go_at_call 56;refine optWriteAsCarV1.mono ?_;rintro e w1 ⟨rfl,rfl⟩;(try go_simp);refine hK _ _ (World.Ext.alloc _ _) ?_
    | go_at_call 57;refine optWithTrustedCAR.mono ?_;rintro e w1 ⟨rfl,rfl⟩;(try go_simp);refine hK _ _ (World.Ext.alloc _ _) ?_
    | go_at_call 58;refine optUseDataPadding.mono ?_;rintro e w1 ⟨rfl,rfl⟩;(try go_simp);refine hK _ _ (World.Ext.alloc _ _) ?_
    | go_at_call 59;refine optUseIndexPadding.mono ?_;rintro e w1 ⟨rfl,rfl⟩;(try go_simp);refine hK _ _ (World.Ext.alloc _ _) ?_
    | (refine wre 1 [(0,.free),(1,.look),(3,.free),(4,.look),(6,.free),(7,.look),(9,.free),(10,.look),(12,.free),(13,.look),(15,.free),(16,.look),(18,.free),(19,.look),(21,.free),(22,.look),(2,.grow),(5,.grow),(8,.grow),(11,.grow),(14,.grow),(17,.grow),(20,.grow),(23,.grow),(24,.make),(25,.free)] ?_)
    | (with_reducible refine wEI ?_;(first|(refine wEN ?_;skip)|(refine wEF rfl (fun K hK=>?_);go_simp)|(refine wEL rfl rfl (fun K hK=>?_);go_simp)|(refine wER rfl (fun K hK=>?_);go_simp)|(refine wEM rfl (fun K hK=>?_);go_simp;try refine ⟨_,_,⟨rfl,rfl⟩,?_⟩)|(refine wEG rfl (fun K hK=>?_);go_simp)|(refine wEA rfl (fun K hK=>?_);go_simp))))
  go_ret
  refine ⟨_,w.heap.size + 1,rfl,⟨?_,?_,?_,?_,?_,?_,?_,?_,?_⟩,by omega,by omega,by repeat (first|exact Fr.refl|(with_reducible refine Fr.drew ?_)|(with_reducible refine Fr.alloc ?_))⟩
  all_goals exact Blk.conv (by repeat (first|(with_reducible refine Blk.newAt ?_;(simp;done))|(with_reducible apply Blk.drew)|(with_reducible apply Blk.alloc))) (by first|rfl|(simp;done))
abbrev optL : List Value:=[.int .u64 0,.int .u64 0,.int .u64 1025,.bool false,.int .u64 2048,.bool false,.bool false,.bool false,.int .u64 9223372036854775807,.bool false,.bool false,.int .u64 33554432,.int .u64 8388608]
abbrev optL0 : List Value:=[.int .u64 0,.int .u64 0,.int .u64 0,.bool false,.int .u64 0,.bool false,.bool false,.bool false,.int .u64 9223372036854775807,.bool false,.bool false,.int .u64 33554432,.int .u64 8388608]
theorem optFZeroLengthSectionAsEOF {w : World} {p c : Nat} (hP : Blk w p optL0 101 (0,0)) (hC : Blk w c [.bool false] 4 (0,0)) : Calls Tryz.prog 92 #[.pointer (some ⟨p,0,none⟩),.pointer (some ⟨c,0,none⟩)] w fun e w'=>e = .returned (.tuple #[]) ∧ Blk w' p optL0 101 (0,0) ∧ Fr [p] w w':=by
  have hc:=hC.cells
  have pc:=hP.cells
  have pf:=hP.free
  go_enter Tryz.func92,Tryz.ntmps92
  go_wp2
  go_end0
  exact ⟨rfl,Blk.conv (Blk.set hP) rfl,by exact frP⟩
theorem optFStoreIdentityCIDs {w : World} {p c : Nat} (hP : Blk w p optL0 101 (0,0)) (hC : Blk w c [.bool false] 4 (0,0)) : Calls Tryz.prog 93 #[.pointer (some ⟨p,0,none⟩),.pointer (some ⟨c,0,none⟩)] w fun e w'=>e = .returned (.tuple #[]) ∧ Blk w' p optL0 101 (0,0) ∧ Fr [p] w w':=by
  have hc:=hC.cells
  have pc:=hP.cells
  have pf:=hP.free
  go_enter Tryz.func93,Tryz.ntmps93
  go_wp2
  go_end0
  exact ⟨rfl,Blk.conv (Blk.set hP) rfl,by exact frP⟩
theorem optFAllowDuplicatePuts {w : World} {p c : Nat} (hP : Blk w p optL0 101 (0,0)) (hC : Blk w c [.bool false] 4 (0,0)) : Calls Tryz.prog 94 #[.pointer (some ⟨p,0,none⟩),.pointer (some ⟨c,0,none⟩)] w fun e w'=>e = .returned (.tuple #[]) ∧ Blk w' p optL0 101 (0,0) ∧ Fr [p] w w':=by
  have hc:=hC.cells
  have pc:=hP.cells
  have pf:=hP.free
  go_enter Tryz.func94,Tryz.ntmps94
  go_wp2
  go_end0
  exact ⟨rfl,Blk.conv (Blk.set hP) rfl,by exact frP⟩
theorem optFUseWholeCIDs {w : World} {p c : Nat} (hP : Blk w p optL0 101 (0,0)) (hC : Blk w c [.bool false] 4 (0,0)) : Calls Tryz.prog 95 #[.pointer (some ⟨p,0,none⟩),.pointer (some ⟨c,0,none⟩)] w fun e w'=>e = .returned (.tuple #[]) ∧ Blk w' p optL0 101 (0,0) ∧ Fr [p] w w':=by
  have hc:=hC.cells
  have pc:=hP.cells
  have pf:=hP.free
  go_enter Tryz.func95,Tryz.ntmps95
  go_wp2
  go_end0
  exact ⟨rfl,Blk.conv (Blk.set hP) rfl,by exact frP⟩
theorem optFWriteAsCarV1 {w : World} {p c : Nat} (hP : Blk w p optL0 101 (0,0)) (hC : Blk w c [.bool false] 4 (0,0)) : Calls Tryz.prog 96 #[.pointer (some ⟨p,0,none⟩),.pointer (some ⟨c,0,none⟩)] w fun e w'=>e = .returned (.tuple #[]) ∧ Blk w' p optL0 101 (0,0) ∧ Fr [p] w w':=by
  have hc:=hC.cells
  have pc:=hP.cells
  have pf:=hP.free
  go_enter Tryz.func96,Tryz.ntmps96
  go_wp2
  go_end0
  exact ⟨rfl,Blk.conv (Blk.set hP) rfl,by exact frP⟩
theorem optFWithTrustedCAR {w : World} {p c : Nat} (hP : Blk w p optL0 101 (0,0)) (hC : Blk w c [.bool false] 4 (0,0)) : Calls Tryz.prog 97 #[.pointer (some ⟨p,0,none⟩),.pointer (some ⟨c,0,none⟩)] w fun e w'=>e = .returned (.tuple #[]) ∧ Blk w' p optL0 101 (0,0) ∧ Fr [p] w w':=by
  have hc:=hC.cells
  have pc:=hP.cells
  have pf:=hP.free
  go_enter Tryz.func97,Tryz.ntmps97
  go_wp2
  go_end0
  exact ⟨rfl,Blk.conv (Blk.set hP) rfl,by exact frP⟩
theorem optFUseDataPadding {w : World} {p c : Nat} (hP : Blk w p optL0 101 (0,0)) (hC : Blk w c [.int .u64 0] 26 (0,0)) : Calls Tryz.prog 98 #[.pointer (some ⟨p,0,none⟩),.pointer (some ⟨c,0,none⟩)] w fun e w'=>e = .returned (.tuple #[]) ∧ Blk w' p optL0 101 (0,0) ∧ Fr [p] w w':=by
  have hc:=hC.cells
  have pc:=hP.cells
  have pf:=hP.free
  go_enter Tryz.func98,Tryz.ntmps98
  go_wp2
  go_end0
  exact ⟨rfl,Blk.conv (Blk.set hP) rfl,by exact frP⟩
theorem optFUseIndexPadding {w : World} {p c : Nat} (hP : Blk w p optL0 101 (0,0)) (hC : Blk w c [.int .u64 0] 26 (0,0)) : Calls Tryz.prog 99 #[.pointer (some ⟨p,0,none⟩),.pointer (some ⟨c,0,none⟩)] w fun e w'=>e = .returned (.tuple #[]) ∧ Blk w' p optL0 101 (0,0) ∧ Fr [p] w w':=by
  have hc:=hC.cells
  have pc:=hP.cells
  have pf:=hP.free
  go_enter Tryz.func99,Tryz.ntmps99
  go_wp2
  go_end0
  exact ⟨rfl,Blk.conv (Blk.set hP) rfl,by exact frP⟩
end Go.Proofs.Wx

namespace Go.Proofs.Wx
open Go Go.RowKit
theorem applyOptions {w : World} {B b : Nat} (h : OptsAt w B b) : Calls Tryz.prog 49 #[.slice (some ⟨B,0,none⟩) 8 8] w fun e w'=>e = .returned (.agg optL.toArray) ∧ Fr [] w w':=by
  have hO:=h
  have hOf:=fun (w' : World) (hf : Fr [] w w')=>h.fr hf (by simp) (by simp)
  have hl:=h.list.lt
  have l8:=h.c7.lt
  have hr:=h.list.cells
  go_enter Tryz.func49,Tryz.ntmps49
  go_wp2_with (first
    | (with_reducible refine wp_loop_rounds 9 ?_);rw [rounds_succ]
    | (with_reducible rw [rounds_succ])
    | go_at_call 92;refine (optFZeroLengthSectionAsEOF (p:=w.heap.size + 1) (Blk.conv (Blk.newAt (by simp)) rfl) (hOf _ (by exact frP)).c0).mono ?_;rintro e w1 ⟨rfl,hP,hF⟩;replace hO:=h.fr (Fr.trans (S:=[w.heap.size + 1]) (by exact frP) hF (by simp)) (by simp;omega) (by simp;omega);clear hr;have hr:=hO.list.cells;have pc:=hP.cells;have pf:=hP.free;have hW:=Fr.trans (S:=[]) (S':=[w.heap.size + 1]) (w:=w) (by exact frP) hF (by simp);have hR:=hF.blk (b:=w.heap.size) (cs:=[.int .u64 0,.int .u64 0,.int .u64 0,.bool false,.int .u64 0,.bool false,.bool false,.bool false,.int .u64 0,.bool false,.bool false,.int .u64 0,.int .u64 0]) (Blk.alloc (Blk.newAt rfl)) (by simp)
    | go_at_call 93;refine (optFStoreIdentityCIDs (p:=w.heap.size + 1) hP hO.c1).mono ?_;rintro e w1 ⟨rfl,hP,hF⟩;replace hO:=hO.fr hF (by simp;omega) (by simp;omega);clear hr;have hr:=hO.list.cells;have pc:=hP.cells;have pf:=hP.free;replace hW : Fr [] w w1:=hW.trans hF (by simp);replace hR:=hF.blk hR (by simp)
    | go_at_call 94;refine (optFAllowDuplicatePuts (p:=w.heap.size + 1) hP hO.c2).mono ?_;rintro e w1 ⟨rfl,hP,hF⟩;replace hO:=hO.fr hF (by simp;omega) (by simp;omega);clear hr;have hr:=hO.list.cells;have pc:=hP.cells;have pf:=hP.free;replace hW : Fr [] w w1:=hW.trans hF (by simp);replace hR:=hF.blk hR (by simp)
    | go_at_call 95;refine (optFUseWholeCIDs (p:=w.heap.size + 1) hP hO.c3).mono ?_;rintro e w1 ⟨rfl,hP,hF⟩;replace hO:=hO.fr hF (by simp;omega) (by simp;omega);clear hr;have hr:=hO.list.cells;have pc:=hP.cells;have pf:=hP.free;replace hW : Fr [] w w1:=hW.trans hF (by simp);replace hR:=hF.blk hR (by simp)
    | go_at_call 96;refine (optFWriteAsCarV1 (p:=w.heap.size + 1) hP hO.c4).mono ?_;rintro e w1 ⟨rfl,hP,hF⟩;replace hO:=hO.fr hF (by simp;omega) (by simp;omega);clear hr;have hr:=hO.list.cells;have pc:=hP.cells;have pf:=hP.free;replace hW : Fr [] w w1:=hW.trans hF (by simp);replace hR:=hF.blk hR (by simp)
    | go_at_call 97;refine (optFWithTrustedCAR (p:=w.heap.size + 1) hP hO.c5).mono ?_;rintro e w1 ⟨rfl,hP,hF⟩;replace hO:=hO.fr hF (by simp;omega) (by simp;omega);clear hr;have hr:=hO.list.cells;have pc:=hP.cells;have pf:=hP.free;replace hW : Fr [] w w1:=hW.trans hF (by simp);replace hR:=hF.blk hR (by simp)
    | go_at_call 98;refine (optFUseDataPadding (p:=w.heap.size + 1) hP hO.c6).mono ?_;rintro e w1 ⟨rfl,hP,hF⟩;replace hO:=hO.fr hF (by simp;omega) (by simp;omega);clear hr;have hr:=hO.list.cells;have pc:=hP.cells;have pf:=hP.free;replace hW : Fr [] w w1:=hW.trans hF (by simp);replace hR:=hF.blk hR (by simp)
    | go_at_call 99;refine (optFUseIndexPadding (p:=w.heap.size + 1) hP hO.c7).mono ?_;rintro e w1 ⟨rfl,hP,hF⟩;replace hO:=hO.fr hF (by simp;omega) (by simp;omega);clear hr;have hr:=hO.list.cells;have pc:=hP.cells;have pf:=hP.free;replace hW : Fr [] w w1:=hW.trans hF (by simp);replace hR:=hF.blk hR (by simp)
    | (with_reducible refine list_store 101 (fun K hK=>?_);  have hR1 : Blk _ w.heap.size [.int .u64 0,.int .u64 0,.int .u64 0,.bool false,.int .u64 0,.bool false,.bool false,.bool false,.int .u64 0,.bool false,.bool false,.int .u64 0,.int .u64 0] _ _:=Blk.setNe (a:=⟨w.heap.size + 1,4,none⟩) (v:=.int .u64 2048) (by simp) (Blk.setNe (a:=⟨w.heap.size + 1,2,none⟩) (v:=.int .u64 1025) (by simp) hR);refine storeRow _ _ _ rfl (w.heap.size) optL rfl rfl _ _ hR1 (by kernel_rfl) rfl rfl (fun w2 hR2 hF2=>?_);have rc:=hR2.cells))
  refine bodyPost_ret (v:=.agg optL.toArray) (by simp [results,Tryz.results49,go_sem,rc]) rfl ⟨rfl,?_⟩
  exact Fr.trans (S:=[]) (S':=[w.heap.size]) (by repeat (first|exact hW|(refine Fr.setCell (.inr (by simp)) ?_))) hF2 (by simp)
end Go.Proofs.Wx

namespace Go.Proofs.Wx
open Go Go.RowKit
abbrev oCfr0 : List (Nat × Cls):=[(0,.look),(1,.free),(2,.free),(3,.act),(4,.free)]
abbrev oCfr1 : List (Nat × Cls):=[(0,.free),(1,.free),(2,.free),(3,.look),(4,.free),(5,.look),(6,.free),(7,.free),(8,.free),(9,.free),(10,.act),(11,.free)]
abbrev oCfr2 : List (Nat × Cls):=[(0,.free),(1,.free),(2,.free),(3,.look),(4,.free),(5,.free),(6,.free),(7,.look),(8,.free),(9,.free),(10,.free),(11,.free),(12,.act),(13,.free)]
abbrev oCfr3 : List (Nat × Cls):=[(0,.free),(1,.free),(2,.free),(3,.look),(4,.free),(5,.free),(6,.read),(7,.free),(8,.free),(9,.act),(10,.free)]
abbrev oCfr4 : List (Nat × Cls):=[(0,.free),(1,.free),(2,.free),(3,.free),(4,.look),(5,.free),(6,.free),(7,.free),(8,.free),(9,.look),(10,.free),(11,.free),(12,.act),(13,.free),(14,.free),(15,.act)]
abbrev oCfr5 : List (Nat × Cls):=[(0,.free),(1,.free),(2,.free),(3,.look),(4,.free),(5,.free),(6,.free),(7,.free),(8,.act),(9,.free)]
abbrev oCfr6 : List (Nat × Cls):=[(0,.free),(1,.free),(2,.free),(3,.look),(4,.free),(5,.free),(6,.free),(7,.free),(8,.look),(9,.read),(10,.free),(11,.free),(12,.act),(13,.free)]
theorem bbrSrc (q d r sb : Nat) (xs : List UInt8) (i0 : Nat) : BSrc 256 ⟨q,0,none⟩ [q,d,r] (xs.take (i0 + 64)) (fun w i=>Bbr w q d r sb xs i0 i) 391 :=
  ⟨fun _=>ahead_cid_bufByteReader_ReadByte _ _,fun _=>meth_cid_bufByteReader_ReadByte _ _,fun _=>by kernel_rfl,fun w i h hi=>by
    have h1 : i < xs.length:=by simp at h;omega
    have h2 : i < i0 + 64:=by simp at h;omega
    rw [List.getElem_take]
    exact bbrReadByte hi h1 h2⟩
theorem take_uv {xs rest : List UInt8} {i0 j n : Nat} (h : xs.drop j = Lib.uvarint n ++ rest) (hl : (Lib.uvarint n).length + j ≤ i0 + 64) :
    (xs.take (i0 + 64)).drop j = Lib.uvarint n ++ rest.take (i0 + 64 - j - (Lib.uvarint n).length):=by
  rw [List.drop_take,h,List.take_append,List.take_of_length_le (by omega)]
theorem toBufByteReader {w : World} (r d : Nat) :
    Calls Tryz.prog 123 #[.iface 74 (.pointer (some ⟨r,0,none⟩)),.slice (some ⟨d,0,none⟩) 0 64] w fun e w'=>e = .returned (.pointer (some ⟨w.heap.size,0,none⟩)) ∧
      Blk w' w.heap.size [.iface 74 (.pointer (some ⟨r,0,none⟩)),.nilIface,.slice (some ⟨d,0,none⟩) 0 64] 259 (0,0) ∧ Fr [] w w':=by
  go_enter Tryz.func123,Tryz.ntmps123
  go_wp2
  go_ret
  exact ⟨rfl,Blk.new (cs:=[_,_,_]),by exact frP⟩
/-- append(b, make([]byte, k)...) beyond the capacity. -/
theorem appZeros {o : Oper} {a : Act} {K : Act → World → Prop} {Q : Exit → Act → World → Prop} {w : World} (s x : Operand)
    (ho : o.op = .call { callee:=.builtin .append,args:=#[s,x],argTypes:=#[76,3] })
    (g n cap : Nat) (hs : a.eval s = .slice (some ⟨g,0,none⟩) n cap) (xs : List UInt8) (hB : Bs w g 0 xs) (hn : xs.length = n)
    (k : Nat) (kz : Int) (hx : a.eval x = .int .i64 kz) (hkz : kz = (k : Int)) (hk : cap < n + k) (hcap : n ≤ cap) (hb : n + k ≤ 1000000)
    (h : ∀ w' C,n + k ≤ C → C ≤ 9223372036854775807 → Blk w' w.heap.size (by8 xs ++ List.replicate (C - n) (.int .u8 0)) 5 (0,0) → Fr [] w w' → K (a.put o.dst (.slice (some ⟨w.heap.size,0,none⟩) (n + k) C)) w') : o.wp Tryz.prog a w K Q:=by
  subst hkz
  obtain ⟨i,hi,hz,hsz,hby⟩:=info_parts u8_info
  have hol : (Builtin.firstCells i.size n (.slice (some ⟨g,0,none⟩) n cap)).run Tryz.prog w.drew = .ok (by8 xs).toArray w.drew :=
    run_firstCells_some (P:=Tryz.prog) w.drew i.size n _ n cap (by8 xs) (by rw [by8_length,hsz,hn,Nat.mul_one]) (fun j v hv=>by
      have hj : j < xs.length:=by have:=(List.getElem?_eq_some_iff.1 hv).1;rwa [by8_length] at this
      rw [by8_at _ _ hj] at hv
      rw [← hv,Addr.add_lit];exact hB.cell j hj)
  have hr:=Lib.run_append_grow_zeros (P:=Tryz.prog) w 76 3 o.type 5 i (.int .u8 0) .i64 .i64 u8_slice (by kernel_rfl) hi hz (some ⟨g,0,none⟩) n cap (by8 xs) hol k (by omega) (by omega) hk (by omega) (by rw [hby];omega)
    (growslice_fits hk (by rw [hby];omega))
  have hge:=grownCap_ge w (n + k) cap 5
  have hle:=grownCap_le_maxLen w (n + k) cap 5 (by unfold maxLen;omega)
  generalize grownCap w (n + k) cap 5 = C at *
  refine Lib.wp_append_run w s x _ _ ho _ _ hs hx _ _ hr (h _ C hge (by unfold maxLen at hle;omega) ?_ ?_)
  · have e : (by8 xs).toArray ++ Builtin.zeroCells (Value.int .u8 0).cells k ++ Builtin.zeroCells (Value.int .u8 0).cells (C - (n + k)) = (by8 xs ++ List.replicate (C - n) (Value.int .u8 0)).toArray:=by
      apply Array.ext'
      have hz : ∀ m,(Builtin.zeroCells (Value.int .u8 0).cells m).toList = List.replicate m (Value.int .u8 0):=fun m=>by
        show (madeCells #[Value.int .u8 0] (m * 1)).toList = _
        rw [Nat.mul_one];exact toList_madeCells_one _ _
      rw [Array.toList_append,Array.toList_append,hz,hz]
      show by8 xs ++ _ ++ _ = by8 xs ++ _
      rw [List.append_assoc,List.replicate_append_replicate,show k + (C - (n + k)) = C - n by omega]
    rw [e]
    exact Blk.new
  · exact (Fr.alloc (Fr.drew Fr.refl))
theorem buf64_len {ys : List UInt8} (h : ys.length ≤ 64) : (buf64 ys).length = 64:=by simp [buf64,by8_length];omega
theorem buf64_lay {ys zs : List UInt8} (h : ys.length + zs.length ≤ 64) : lay (buf64 ys) ys.length zs = buf64 (ys ++ zs):=by
  simp only [lay,buf64,by8_append]
  rw [List.take_append_of_le_length (by rw [by8_length];omega),List.take_of_length_le (by rw [by8_length];omega),List.drop_append,List.drop_eq_nil_of_le (by rw [by8_length];omega),by8_length,List.drop_replicate,List.append_assoc,List.nil_append,List.append_assoc]
  congr 3;simp;omega
theorem buf64_bs {w : World} {d : Nat} {xs : List UInt8} {T : TypeId} {fr : Nat × Nat} (h : Blk w d (buf64 xs) T fr) : Bs w d 0 xs:=Blk.bs (pre:=[]) h rfl rfl
theorem cidFromReader1 {w : World} {r sb : Nat} {xs : List UInt8} {i : Nat} {c : CidM} {rest : List UInt8} (h : Rdr w r sb xs i) (hx : xs.drop i = c.bytes ++ rest) (h0 : c.v = 1) (hok : c.Ok) :
    Calls Tryz.prog 90 #[.iface 74 (.pointer (some ⟨r,0,none⟩))] w fun e w'=>e = .returned (.tuple #[.int .i64 c.bytes.length,cidV c,.nilIface]) ∧ Rdr w' r sb xs (i + c.bytes.length) ∧ Fr [r] w w':=by
  have hlt:=h.lt
  go_enter Tryz.func90,Tryz.ntmps90
  go_wp2_with (first
    | (with_reducible refine list_makeSlice (fun K hK=>?_);  refine makeB _ _ rfl _ _ _ _ 0 64 rfl rfl rfl rfl (by omega) (by omega) ?_)
    | go_at_call 123;refine (toBufByteReader r _).mono ?_;rintro e w1 ⟨rfl,hQ1,hF1⟩
    | (refine wre 5 oCfr0 ?_)
    | (refine wre 6 oCfr1 ?_)
    | (refine wre 10 oCfr2 ?_)
    | (refine wre 14 oCfr1 ?_)
    | (refine wre 15 oCfr3 ?_)
    | (refine wre 20 oCfr1 ?_)
    | (refine wre 24 oCfr1 ?_)
    | (refine wre 27 oCfr1 ?_)
    | (refine wre 33 oCfr4 ?_)
    | (refine wre 37 oCfr5 ?_)
    | (refine wre 40 oCfr1 ?_)
    | (refine wre 41 oCfr6 ?_)
    | (with_reducible refine wEI ?_;(first|(refine wEN ?_;skip)|(refine wEF rfl (fun K hK=>?_);go_simp)|(refine wEL rfl rfl (fun K hK=>?_);go_simp)|(refine wER rfl (fun K hK=>?_);go_simp)|(refine wEM rfl (fun K hK=>?_);go_simp;try refine ⟨_,_,⟨rfl,rfl⟩,?_⟩)|(refine wEG rfl (fun K hK=>?_);go_simp)|(refine wpE_actp rfl rfl (fun K hK=>?_);simp only [List.getElem_toArray,List.getElem_cons_succ,List.getElem_cons_zero];(first|(with_reducible refine op_makeSlice ?_;  refine makeB _ _ rfl _ _ _ _ 0 64 rfl rfl rfl rfl (by omega) (by omega) ?_)))|(refine wEA rfl (fun K hK=>?_);go_simp))))
  have hck : c.codec < 9223372036854775808:=by rcases hok.kind with ⟨h,_⟩|⟨_,h,_⟩ <;> omega
  have hcode:=hok.code_lt
  have hdl:=hok.len
  have hk9:=uv9 hck
  have hk29:=uv9 hcode
  have hk32:=uv2 (n:=c.dig.length) (by omega)
  have hx1 : xs.drop i = Lib.uvarint 1 ++ (Lib.uvarint c.codec ++ (mhB c.code c.dig ++ rest)):=by rw [hx];unfold CidM.bytes;rw [if_neg (by omega)];simp
  have hx2 : xs.drop (i + 1) = Lib.uvarint c.codec ++ (mhB c.code c.dig ++ rest):=by rw [← List.drop_drop,hx1,uv1];rfl
  have hx3 : xs.drop (i + 1 + (Lib.uvarint c.codec).length) = Lib.uvarint c.code ++ (Lib.uvarint c.dig.length ++ (c.dig ++ rest)):=by rw [← List.drop_drop,hx2];simp [mhB]
  have hx4 : xs.drop (i + 1 + (Lib.uvarint c.codec).length + (Lib.uvarint c.code).length) = Lib.uvarint c.dig.length ++ (c.dig ++ rest):=by rw [← List.drop_drop,hx3];simp
  have hx5 : xs.drop (i + 1 + (Lib.uvarint c.codec).length + (Lib.uvarint c.code).length + (Lib.uvarint c.dig.length).length) = c.dig ++ rest:=by rw [← List.drop_drop,hx4];simp
  have hln : c.bytes.length = 1 + (Lib.uvarint c.codec).length + (Lib.uvarint c.code).length + (Lib.uvarint c.dig.length).length + c.dig.length:=by rw [CidM.bytes1 h0];simp [mhB];omega
  have hT : ∀ j,i ≤ j → j ≤ i + c.bytes.length → (xs.take j).drop i = c.bytes.take (j - i):=fun j h1 h2=>by
    rw [List.drop_take,hx,List.take_append_of_le_length (by omega)]
  have hi1 : Bbr w1 (w.heap.size + 1 + 1) (w.heap.size + 1) r sb xs i i:=by
    have hD:=hF1.blk (Blk.new (cs:=List.replicate 64 (.int .u8 0))) (by simp)
    refine ⟨?_,?_,(h.fr (S:=[]) (Fr.trans (S:=[]) (by exact frP) hF1 (by simp)) (by simp) (by simp)),Nat.le_refl _,by omega,by omega,by omega,by omega,by omega⟩
    · simpa using hQ1
    · refine Blk.conv (by simpa using hD) ?_
      rw [hT i (Nat.le_refl _) (by omega)];simp [buf64,by8]
  have hZ1:=hF1.blk (Blk.alloc (Blk.new (cs:=[_]))) (by simp)
  have hW1 : Fr [r] w w1:=Fr.trans (S:=[r]) (by exact frP) hF1 (by simp)
  have h1n : (Lib.uvarint 1).length = 1:=by rw [uv1];rfl
  have U1:=readUvarint (bbrSrc _ _ _ _ _ i) hi1 (n:=1) (by decide) (take_uv hx1 (by omega))
  have U2:=fun w' hi=>readUvarint (bbrSrc (w.heap.size + 1 + 1) (w.heap.size + 1) r sb xs i) (w:=w') (i:=i + 1) hi (n:=c.codec) (by omega) (take_uv hx2 (by omega))
  have U3:=fun w' hi=>readUvarint (bbrSrc (w.heap.size + 1 + 1) (w.heap.size + 1) r sb xs i) (w:=w') (i:=i + 1 + (Lib.uvarint c.codec).length) hi (n:=c.code) (by omega) (take_uv hx3 (by omega))
  have U4:=fun w' hi=>readUvarint (bbrSrc (w.heap.size + 1 + 1) (w.heap.size + 1) r sb xs i) (w:=w') (i:=i + 1 + (Lib.uvarint c.codec).length + (Lib.uvarint c.code).length) hi (n:=c.dig.length) (by omega) (take_uv hx4 (by omega))
  rw [h1n] at U1
  have hrl : c.dig.length ≤ (xs.drop (i + 1 + (Lib.uvarint c.codec).length + (Lib.uvarint c.code).length + (Lib.uvarint c.dig.length).length)).length:=by rw [hx5];simp
  have hpre : c.bytes.take (1 + (Lib.uvarint c.codec).length + (Lib.uvarint c.code).length + (Lib.uvarint c.dig.length).length) ++ c.dig = c.bytes:=by
    have e : c.bytes = (Lib.uvarint 1 ++ Lib.uvarint c.codec ++ Lib.uvarint c.code ++ Lib.uvarint c.dig.length) ++ c.dig:=by unfold CidM.bytes mhB;rw [if_neg (by omega)];simp
    conv=>lhs;lhs;rw [e]
    rw [List.take_append_of_le_length (by simp;omega),List.take_of_length_le (by simp;omega),← e]
  have hmh : c.bytes.drop (1 + (Lib.uvarint c.codec).length) = mhB c.code c.dig:=by unfold CidM.bytes;rw [if_neg (by omega),← List.append_assoc,List.drop_left' (by simp;omega)]
  have Hpre:=Lib.hid hpre
  have Hmh:=Lib.hid hmh
  clear hpre hmh
  have HT:=Lib.hid hT
  have HL:=Lib.hid hln
  have Hx5:=Lib.hid hx5
  have hxl : i + c.bytes.length ≤ xs.length:=by
    have h1:=congrArg List.length hx
    have h2:=hok.le.2
    simp at h1;omega
  have hk1:=Lib.uvarint_pos c.codec
  have hk2:=Lib.uvarint_pos c.code
  have hk3:=Lib.uvarint_pos c.dig.length
  have hbl : c.bytes.length ≤ 221:=hok.le.1
  clear hx hx1 hx2 hx3 hx4 hx5 hT hln h1n hQ1 hF1 hi1
  generalize hK1 : (Lib.uvarint c.codec).length = k1 at *
  generalize hK2 : (Lib.uvarint c.code).length = k2 at *
  generalize hK3 : (Lib.uvarint c.dig.length).length = k3 at *
  have HK1:=Lib.hid hK1
  have HK2:=Lib.hid hK2
  have HK3:=Lib.hid hK3
  clear hK1 hK2 hK3
  obtain ⟨q,hq⟩ : ∃ q,q = w.heap.size + 1 + 1:=⟨_,rfl⟩
  obtain ⟨d,hd⟩ : ∃ d,d = w.heap.size + 1:=⟨_,rfl⟩
  rw [← hq,← hd] at U1 U2 U3 U4
  rw [← hq]
  have hqd : q ≠ d ∧ q ≠ r ∧ q ≠ sb ∧ d ≠ r ∧ d ≠ sb ∧ w.heap.size < d ∧ w.heap.size < q:=by omega
  have Hq:=Lib.hid hq
  have Hd:=Lib.hid hd
  clear hq hd
  refine U1.mono ?_;rintro e w2 ⟨rfl,hi2,hF2⟩
  have hW2 : Fr [r] w w2:=hW1.trans hF2 (by simp;omega)
  have hZ2:=hF2.blk hZ1 (by simp;omega)
  clear hZ1
  go_wp2_with fail
  refine (U2 _ hi2).mono ?_;rintro e w3 ⟨rfl,hi3,hF3⟩
  have hW3 : Fr [r] w w3:=hW2.trans hF3 (by simp;omega)
  have hZ3:=hF3.blk hZ2 (by simp;omega)
  clear hZ2
  have hq3:=hi3.hq.cells
  rw [show i + 1 + k1 - i = 1 + k1 by omega] at hq3
  go_wp2_with fail
  refine (U3 _ hi3).mono ?_;rintro e w4 ⟨rfl,hi4,hF4⟩
  have hW4 : Fr [r] w w4:=hW3.trans hF4 (by simp;omega)
  have hZ4:=hF4.blk hZ3 (by simp;omega)
  clear hZ3
  clear hq3
  go_wp2_with fail
  refine (U4 _ hi4).mono ?_;rintro e w5 ⟨rfl,hi5,hF5⟩
  have hW5 : Fr [r] w w5:=hW4.trans hF5 (by simp;omega)
  have hZ5:=hF5.blk hZ4 (by simp;omega)
  clear hZ4
  have hq5:=hi5.hq.cells
  have hqf5:=hi5.hq.free
  rw [show i + 1 + k1 + k2 + k3 - i = 1 + k1 + k2 + k3 by omega] at hq5
  clear U1 U2 U3 U4 hi2 hi3 hi4 hF2 hF3 hF4 hF5 hW1 hW2 hW3 hW4
  have hqd1:=hqd.1
  have hqd2:=Ne.symm hqd1
  have hql:=hi5.hq.lt
  have hdl5:=hi5.hd.lt
  by_cases hc64 : 1 + k1 + k2 + k3 + c.dig.length ≤ 64
  · have h64 : (1 : Int) + k1 + k2 + k3 + c.dig.length ≤ 64:=by omega
    go_wp2_with fail
    have hpl : ((xs.take (i + 1 + k1 + k2 + k3)).drop i).length = 1 + k1 + k2 + k3:=by rw [HT.out _ (by omega) (by have:=HL.out;omega)];simp;have:=HL.out;omega
    have hb7 : lay (buf64 ((xs.take (i + 1 + k1 + k2 + k3)).drop i)) (1 + k1 + k2 + k3) ((xs.drop (i + 1 + k1 + k2 + k3)).take c.dig.length) = buf64 c.bytes:=by
      have h1:=buf64_lay (ys:=(xs.take (i + 1 + k1 + k2 + k3)).drop i) (zs:=c.dig) (by rw [hpl];omega)
      rw [hpl] at h1
      rw [Hx5.out,List.take_left,h1,HT.out _ (by omega) (by have:=HL.out;omega),show i + 1 + k1 + k2 + k3 - i = 1 + k1 + k2 + k3 by omega,Hpre.out]
    refine (readFull (hi5.hr.fr (S:=[q]) (by exact frP) (by simp [Ne.symm hqd.2.1]) (by simp [Ne.symm hqd.2.2.1])) d (1 + k1 + k2 + k3) c.dig.length _ _ _ (Blk.setNe (by simp [hqd1]) hi5.hd) (by rw [buf64_len (by rw [hpl];omega)];omega) (by omega) hqd.2.2.2.1 hqd.2.2.2.2.1 (by have:=HL.out;omega)).mono ?_
    rintro e w7 ⟨rfl,hR7,hB7,hF7⟩
    rw [hb7] at hB7
    have hF6 : Fr [r] w w7:=(Fr.setCell (S:=[r]) (.inr (Nat.le_of_lt hqd.2.2.2.2.2.2)) hW5).trans hF7 (by simp;omega)
    have hB9:=buf64_bs hB7
    have hQ7:=hF7.blk (b:=q) (Blk.set (o:=2) (v:=.slice (some ⟨d,0,none⟩) (1 + k1 + k2 + k3 + c.dig.length) 64) hi5.hq) (by simp [hqd.2.1,hqd1])
    have hq7:=hQ7.cells
    have hqf7:=hQ7.free
    have hMh : ∀ w',Fr [] w7 w' → Sl w' (.slice (some ⟨d,1 + k1,none⟩) (1 + k1 + k2 + k3 + c.dig.length - (1 + k1)) (64 - (1 + k1))) d (mhB c.code c.dig):=fun w' hf =>
      Sl.mk (by have:=(hB9.fr hf (by simp)).drop (1 + k1);rw [Hmh.out,Nat.zero_add] at this;exact this) (by rw [← Hmh.out,List.length_drop];have:=HL.out;omega) (by rw [← Hmh.out,List.length_drop];omega) (by rw [← Hmh.out,List.length_drop];have:=HL.out;omega)
    clear hq5 hqf5
    go_wp2_with fail
    have hZ7:=hF7.blk (Blk.setNe (Ne.symm (Nat.ne_of_lt hqd.2.2.2.2.2.2)) hZ5) (by simp;omega)
    refine (mhFromBytes (dig:=c.dig) (rest:=[]) (hMh _ Fr.refl) hcode (by simp) (by omega)).mono ?_;rintro e w8 ⟨v8,rfl,hF8⟩
    have hQ8:=hF8.blk hQ7 (by simp)
    have hZ8:=hF8.blk hZ7 (by simp)
    have hq8:=hQ8.cells
    have hz8:=hZ8.cells
    have hzf8:=hZ8.free
    have hcv:=convBack (c:=64) 76 (.inl rfl) ((hB9.fr hF8 (by simp)).drew) (1 + k1 + k2 + k3 + c.dig.length) (by have:=HL.out;omega)
    have hF9 : Fr [r] w w8:=hF6.trans hF8 (by simp)
    have hR8:=hR7.fr hF8 (by simp) (by simp)
    clear hq7 hqf7
    go_wp2_with (first
      | (refine wre 5 oCfr0 ?_)
      | (refine wre 6 oCfr1 ?_)
      | (refine wre 10 oCfr2 ?_)
      | (refine wre 14 oCfr1 ?_)
      | (refine wre 15 oCfr3 ?_)
      | (refine wre 20 oCfr1 ?_)
      | (refine wre 24 oCfr1 ?_)
      | (refine wre 27 oCfr1 ?_)
      | (refine wre 33 oCfr4 ?_)
      | (refine wre 37 oCfr5 ?_)
      | (refine wre 40 oCfr1 ?_)
      | (refine wre 41 oCfr6 ?_)
      | (with_reducible refine wEI ?_;(first|(refine wEN ?_;skip)|(refine wEF rfl (fun K hK=>?_);go_simp)|(refine wEL rfl rfl (fun K hK=>?_);go_simp)|(refine wER rfl (fun K hK=>?_);go_simp)|(refine wEM rfl (fun K hK=>?_);go_simp;try refine ⟨_,_,⟨rfl,rfl⟩,?_⟩)|(refine wEG rfl (fun K hK=>?_);go_simp)|(refine wEA rfl (fun K hK=>?_);go_simp))))
    refine bodyPost_ret (v:=.tuple #[.int .i64 c.bytes.length,cidV c,.nilIface]) (by simp [results,Tryz.results90,go_sem,hz8,HL.out]) rfl ⟨rfl,?_,?_⟩
    · rw [show i + c.bytes.length = i + 1 + k1 + k2 + k3 + c.dig.length by have:=HL.out;omega]
      exact hR8.fr (S:=[w.heap.size]) (by exact frP) (by simp;omega) (by simp;omega)
    · repeat (first|exact hF9|(with_reducible refine Fr.drew ?_)|(refine Fr.setCell (.inr (Nat.le_refl _)) ?_))
  · have h64 : (64 : Int) < (1 : Int) + k1 + k2 + k3 + c.dig.length:=by omega
    have hpl : ((xs.take (i + 1 + k1 + k2 + k3)).drop i).length = 1 + k1 + k2 + k3:=by rw [HT.out _ (by omega) (by have:=HL.out;omega)];simp;have:=HL.out;omega
    have hDb : Bs w5 d 0 ((xs.take (i + 1 + k1 + k2 + k3)).drop i):=buf64_bs hi5.hd
    have HPL:=Lib.hid hpl
    clear hpl
    have hgap : d ≠ w5.heap.size ∧ q ≠ w5.heap.size:=by omega
    go_wp2_with (first
      | (with_reducible refine list_bi .append (fun K hK=>?_);  refine appZeros _ _ rfl d (1 + k1 + k2 + k3) 64 rfl ((xs.take (i + 1 + k1 + k2 + k3)).drop i) hDb.drew HPL.out c.dig.length _ rfl (by rw [IntWalk.i64_in _ (by omega)];omega) (by omega) (by omega) (by omega) (fun w6 C hC1 hC2 hB6 hF6=>?_);have hQ6:=hF6.blk (Blk.drew hi5.hq) (by simp);have hq6:=hQ6.cells;have hqf6:=hQ6.free;clear hq5 hqf5)
      | (refine wre 5 oCfr0 ?_)
      | (refine wre 6 oCfr1 ?_)
      | (refine wre 10 oCfr2 ?_)
      | (refine wre 14 oCfr1 ?_)
      | (refine wre 15 oCfr3 ?_)
      | (refine wre 20 oCfr1 ?_)
      | (refine wre 24 oCfr1 ?_)
      | (refine wre 27 oCfr1 ?_)
      | (refine wre 33 oCfr4 ?_)
      | (refine wre 37 oCfr5 ?_)
      | (refine wre 40 oCfr1 ?_)
      | (refine wre 41 oCfr6 ?_)
      | (with_reducible refine wEI ?_;(first|(refine wEN ?_;skip)|(refine wEF rfl (fun K hK=>?_);go_simp)|(refine wEL rfl rfl (fun K hK=>?_);go_simp)|(refine wER rfl (fun K hK=>?_);go_simp)|(refine wEM rfl (fun K hK=>?_);go_simp;try refine ⟨_,_,⟨rfl,rfl⟩,?_⟩)|(refine wEG rfl (fun K hK=>?_);go_simp)|(refine wpE_actp rfl rfl (fun K hK=>?_);simp only [List.getElem_toArray,List.getElem_cons_succ,List.getElem_cons_zero];(first|(with_reducible refine op_bi .append ?_;  refine appZeros _ _ rfl d (1 + k1 + k2 + k3) 64 rfl ((xs.take (i + 1 + k1 + k2 + k3)).drop i) hDb.drew HPL.out c.dig.length _ rfl (by rw [IntWalk.i64_in _ (by omega)];omega) (by omega) (by omega) (by omega) (fun w6 C hC1 hC2 hB6 hF6=>?_);have hQ6:=hF6.blk (Blk.drew hi5.hq) (by simp);have hq6:=hQ6.cells;have hqf6:=hQ6.free;clear hq5 hqf5)))|(refine wEA rfl (fun K hK=>?_);go_simp))))
    have hd6:=hgap.1
    replace hB6 : Blk w6 w5.heap.size (by8 ((xs.take (i + 1 + k1 + k2 + k3)).drop i) ++ List.replicate (C - (1 + k1 + k2 + k3)) (.int .u8 0)) 5 (0,0):=hB6
    generalize hg5 : w5.heap.size = g at *
    have Hg5:=Lib.hid hg5
    clear hg5
    replace hF6 : Fr [] w5 w6:=Fr.trans (S:=[]) (Fr.drew Fr.refl) hF6 (by simp)
    have hF6q : Fr [q] w5 (w6.setCell { block:=q,off:=2 } (Value.slice (some { block:=g,off:=0 }) (1 + k1 + k2 + k3 + c.dig.length) C)):=Fr.setCell (.inl (by simp)) (hF6.mono (by simp))
    have hg6:=hB6.lt
    have hrg : r ≠ g ∧ sb ≠ g:=by have:=hi5.hr.lt;have:=Hg5.out;omega
    have hb7 : lay (by8 ((xs.take (i + 1 + k1 + k2 + k3)).drop i) ++ List.replicate (C - (1 + k1 + k2 + k3)) (.int .u8 0)) (1 + k1 + k2 + k3) ((xs.drop (i + 1 + k1 + k2 + k3)).take c.dig.length) = [] ++ by8 c.bytes ++ List.replicate (C - (1 + k1 + k2 + k3) - c.dig.length) (.int .u8 0):=by
      rw [Hx5.out,List.take_left,HT.out _ (by omega) (by have:=HL.out;omega),show i + 1 + k1 + k2 + k3 - i = 1 + k1 + k2 + k3 by omega]
      conv=>rhs;rw [← Hpre.out]
      have hl : (by8 (c.bytes.take (1 + k1 + k2 + k3))).length = 1 + k1 + k2 + k3:=by rw [by8_length,List.length_take];have:=HL.out;omega
      simp only [lay,by8_append,List.nil_append]
      rw [List.take_append_of_le_length (by omega),List.take_of_length_le (by omega),List.drop_append,hl,List.drop_eq_nil_of_le (by omega),List.drop_replicate,List.nil_append]
      congr 2;omega
    refine (readFull (hi5.hr.fr hF6q (by simp [Ne.symm hqd.2.1]) (by simp [Ne.symm hqd.2.2.1])) g (1 + k1 + k2 + k3) c.dig.length _ _ _ (Blk.setNe (by simp [hgap.2]) hB6) (by simp [by8_length,HPL.out];omega) (by omega) (Ne.symm hrg.1) (Ne.symm hrg.2) (by have:=HL.out;omega)).mono ?_
    rintro e w7 ⟨rfl,hR7,hB7,hF7⟩
    rw [hb7] at hB7
    have hF67 : Fr [r] w w7:=((hW5.trans hF6q (by simp;omega)).trans hF7 (by simp;have:=Hg5.out;have:=hW5.size;omega))
    have hB9 : Bs w7 g 0 c.bytes:=Blk.bs (pre:=[]) hB7 rfl rfl
    have hQ7:=hF7.blk (b:=q) (Blk.set (o:=2) (v:=.slice (some ⟨g,0,none⟩) (1 + k1 + k2 + k3 + c.dig.length) C) hQ6) (by simp [hqd.2.1,hgap.2])
    have hq7:=hQ7.cells
    have hqf7:=hQ7.free
    have hCk : ¬ C = 1 + k1:=by omega
    have hMh : ∀ w',Fr [] w7 w' → Sl w' (.slice (some ⟨g,1 + k1,none⟩) (1 + k1 + k2 + k3 + c.dig.length - (1 + k1)) (C - (1 + k1))) g (mhB c.code c.dig):=fun w' hf =>
      Sl.mk (by have:=(hB9.fr hf (by simp)).drop (1 + k1);rw [Hmh.out,Nat.zero_add] at this;exact this) (by rw [← Hmh.out,List.length_drop];have:=HL.out;omega) (by rw [← Hmh.out,List.length_drop];omega) (by rw [← Hmh.out,List.length_drop];have:=HL.out;omega)
    clear hq6 hqf6
    go_wp2_with fail
    have hZ7:=hF7.blk (b:=w.heap.size) (Blk.setNe (Ne.symm (Nat.ne_of_lt hqd.2.2.2.2.2.2)) (hF6.blk hZ5 (by simp))) (by simp;have:=hW5.size;have:=Hg5.out;omega)
    refine (mhFromBytes (dig:=c.dig) (rest:=[]) (hMh _ Fr.refl) hcode (by simp) (by omega)).mono ?_;rintro e w8 ⟨v8,rfl,hF8⟩
    have hQ8:=hF8.blk hQ7 (by simp)
    have hZ8:=hF8.blk hZ7 (by simp)
    have hq8:=hQ8.cells
    have hz8:=hZ8.cells
    have hzf8:=hZ8.free
    have hcv:=convBack (c:=C) 76 (.inl rfl) ((hB9.fr hF8 (by simp)).drew) (1 + k1 + k2 + k3 + c.dig.length) (by have:=HL.out;omega)
    have hF9 : Fr [r] w w8:=hF67.trans hF8 (by simp)
    have hR8:=hR7.fr hF8 (by simp) (by simp)
    clear hq7 hqf7
    go_wp2_with (first
      | (refine wre 5 oCfr0 ?_)
      | (refine wre 6 oCfr1 ?_)
      | (refine wre 10 oCfr2 ?_)
      | (refine wre 14 oCfr1 ?_)
      | (refine wre 15 oCfr3 ?_)
      | (refine wre 20 oCfr1 ?_)
      | (refine wre 24 oCfr1 ?_)
      | (refine wre 27 oCfr1 ?_)
      | (refine wre 33 oCfr4 ?_)
      | (refine wre 37 oCfr5 ?_)
      | (refine wre 40 oCfr1 ?_)
      | (refine wre 41 oCfr6 ?_)
      | (with_reducible refine wEI ?_;(first|(refine wEN ?_;skip)|(refine wEF rfl (fun K hK=>?_);go_simp)|(refine wEL rfl rfl (fun K hK=>?_);go_simp)|(refine wER rfl (fun K hK=>?_);go_simp)|(refine wEM rfl (fun K hK=>?_);go_simp;try refine ⟨_,_,⟨rfl,rfl⟩,?_⟩)|(refine wEG rfl (fun K hK=>?_);go_simp)|(refine wEA rfl (fun K hK=>?_);go_simp))))
    refine bodyPost_ret (v:=.tuple #[.int .i64 c.bytes.length,cidV c,.nilIface]) (by simp [results,Tryz.results90,go_sem,hz8,HL.out]) rfl ⟨rfl,?_,?_⟩
    · rw [show i + c.bytes.length = i + 1 + k1 + k2 + k3 + c.dig.length by have:=HL.out;omega]
      exact hR8.fr (S:=[w.heap.size]) (by exact frP) (by simp;omega) (by simp;omega)
    · repeat (first|exact hF9|(with_reducible refine Fr.drew ?_)|(refine Fr.setCell (.inr (Nat.le_refl _)) ?_))
end Go.Proofs.Wx
